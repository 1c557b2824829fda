import PyProof.Rows.All
import Wide.All
import OpenK.AllK
import Wide.FinOn
import PySem.Challenge.RW_sc0106_01
set_option Elab.async false
set_option linter.all false
noncomputable section
section Q1
open PySem PySem.W PySem.Calls PyProof.Rows
namespace Rz

/-! the mini text and its evaluator -/
inductive V where
  | none | bool (b : Bool) | int (i : Int) | str (s : List Nat)
  | tup (vs : List V) | ref (i : Nat) | con (k : Nat) | rng (a b c : Int)
  | clo (k : Nat) (cs : List Nat) | bm (k i : Nat)


inductive AO where
  | list (vs : List V) | cell (v : Option V) | dict (kv : List (Nat × V)) | inst (c d : Nat)
  | cit (k i : Nat) (live : Bool) | rit (l : Nat) (n : Int)


noncomputable abbrev MH := List AO
noncomputable abbrev Call := V → List V → MH → Option (V × MH)

structure Fr where
  loc : List (Nat × V)
  cel : List (Nat × Nat)

inductive Prim where
  | len | divmod | rev | range | iter | sum | min | max | sorted | tuple | list


set_option genInjectivity false in
set_option genSizeOf false in
mutual
inductive E where
  | lit (v : V) | loc (x : Nat) | cel (x : Nat) | glb (x : Nat)
  | bin (op : Operator) (a b : E) | neg (a : E) | inv (a : E)
  | cmp (op : CmpOp) (a b : E) | not (a : E) | bop (o : BoolOp) (e : E) (es : Es) | ife (t : T) (a b : E)
  | lst (es : Es) | tup (es : Es) | idx (o i : E) | slc (o lo hi : E) | att (o : E) (n : Nat)
  | call (f : E) (args : Es) | prim (p : Prim) (args : Es) | mth (o : E) (n : Nat) (args : Es)
  | comp (elt : E) (x : Nat) (it : E) (fv : List Nat) | compIf (elt : E) (x : Nat) (it : E) (cond : T) (fv : List Nat)
  | lam (k : Nat) (fv : List Nat)
inductive Es where
  | nil | cons (e : E) (es : Es)
inductive T where
  | val (e : E) | not (t : T) | bop (o : BoolOp) (ts : Ts) | ife (t a b : T) | cmp (op : CmpOp) (a b : E)
inductive Ts where
  | nil | cons (t : T) (ts : Ts)
end

inductive Tg where
  | loc (x : Nat) | cel (x : Nat)

set_option genInjectivity false in
set_option genSizeOf false in
mutual
inductive St where
  | asg (t : Tg) (e : E) | asgT (ts : List Tg) (e : E) | asgC (ts : List Tg) (e : E)
  | setA (o : E) (n : Nat) (e : E) | setI (o i e : E)
  | aug (t : Tg) (op : Operator) (e : E) | augA (o : E) (n : Nat) (op : Operator) (e : E)
  | ex (e : E) | ife (t : T) (a b : Ss) | whl (t : T) (b : Ss) | forr (t : Tg) (it : E) (b : Ss)
  | ret (e : E) | brk | cnt | fdef (t : Tg) (k : Nat) (fv : List Nat) | bad
inductive Ss where
  | nil | cons (s : St) (ss : Ss)
end

inductive Fl where
  | nxt | cnt | brk | ret (v : V)

noncomputable def lk {α : Type} : List (Nat × α) → Nat → Option α
  | [], _ => none
  | (k, v) :: r, x => match Nat.beq k x with
    | true => some v
    | false => lk r x
noncomputable def put {α : Type} : List (Nat × α) → Nat → α → List (Nat × α)
  | [], x, v => [(x, v)]
  | (k, w) :: r, x, v => match Nat.beq k x with
    | true => (k, v) :: r
    | false => (k, w) :: put r x v

structure Gl where
  g : Nat → Option V
  m : Nat → Nat → Option Nat
  a : Nat → Nat → Option V
  /-- the names of an object's own data -/
  dat : Nat → Nat → Bool

inductive It where
  | lst (i k : Nat) | str (cs : List Nat) | rng (x : Int) (n : Nat) (c : Int) | obj (i : Nat)

theorem no_some {α : Type} {r : α} {P : Prop} (e : (none : Option α) = some r) : P := nomatch e
noncomputable def onL {α β : Type} (o : Option β) (k : β → Option α) : Option α := match o with
  | some x => k x
  | none => none
/-- by the kind of a value; `d` where no arm is given -/
noncomputable def vC {α : Type} (d : α) (v : V) (i : Int → α := fun z => d) (s : List Nat → α := fun z => d) (r : Nat → α := fun z => d) (t : List V → α := fun z => d) (g : Int → Int → Int → α := fun x y z => d) (c : Nat → α := fun z => d) (m : Nat → Nat → α := fun y z => d) (b : Bool → α := fun z => d) : α :=
  V.casesOn (motive_1 := fun _ => α) v d b i s t r c g (fun y z => d) m
noncomputable def oC {α : Type} (d : α) (o : AO) (l : List V → α := fun z => d) (c : Option V → α := fun z => d) (k : List (Nat × V) → α := fun z => d) (i : Nat → Nat → α := fun y z => d) (t : Nat → Nat → Bool → α := fun x y z => d) (r : Nat → Int → α := fun y z => d) : α :=
  AO.casesOn (motive := fun _ => α) o l c k i t r
noncomputable def onR {α : Type} (v : V) (k : Nat → Option α) : Option α := vC none v (r := k)
noncomputable def onI {α : Type} (v : V) (k : Int → Option α) : Option α := vC none v (i := k)
noncomputable def onS {α : Type} (v : V) (k : List Nat → Option α) : Option α := vC none v (s := k)
noncomputable def onB {α : Type} (v : V) (k : Bool → Option α) : Option α := vC none v (b := k)
noncomputable def onTup {α : Type} (v : V) (k : List V → Option α) : Option α := vC none v (t := k)
noncomputable def onLst {α : Type} (o : Option AO) (k : List V → Option α) : Option α := onL o fun o => oC none o (l := k)
noncomputable def nilL {α β : Type} (l : List β) (x : Option α) : Option α := match l with
  | [] => x
  | _ :: _ => none
noncomputable def oneL {α β : Type} (l : List β) (k : β → Option α) : Option α := match l with
  | [] => none
  | v :: r => nilL r (k v)
noncomputable def twoL {α β : Type} (l : List β) (k : β → β → Option α) : Option α := match l with
  | [] => none
  | v :: r => oneL r (k v)
section
variable {α β : Type} {r : α}
@[elab_as_elim] theorem onR_e {P : V → Prop} {v : V} {k : Nat → Option α} (e : onR v k = some r) (f : ∀ i, k i = some r → P (.ref i)) : P v := by
  cases v <;> first | exact no_some e | exact f _ e
theorem onR_some {v : V} {k : Nat → Option α} (e : onR v k = some r) : ∃ i, v = .ref i ∧ k i = some r := onR_e (P := fun v => ∃ i, v = .ref i ∧ k i = some r) e fun i h => ⟨i, rfl, h⟩
@[elab_as_elim] theorem onI_e {P : V → Prop} {v : V} {k : Int → Option α} (e : onI v k = some r) (f : ∀ i, k i = some r → P (.int i)) : P v := by
  cases v <;> first | exact no_some e | exact f _ e
theorem onI_some {v : V} {k : Int → Option α} (e : onI v k = some r) : ∃ i, v = .int i ∧ k i = some r := onI_e (P := fun v => ∃ i, v = .int i ∧ k i = some r) e fun i h => ⟨i, rfl, h⟩
@[elab_as_elim] theorem onB_e {P : V → Prop} {v : V} {k : Bool → Option α} (e : onB v k = some r) (f : ∀ i, k i = some r → P (.bool i)) : P v := by
  cases v <;> first | exact no_some e | exact f _ e
theorem onB_some {v : V} {k : Bool → Option α} (e : onB v k = some r) : ∃ i, v = .bool i ∧ k i = some r := onB_e (P := fun v => ∃ i, v = .bool i ∧ k i = some r) e fun i h => ⟨i, rfl, h⟩
@[elab_as_elim] theorem onTup_e {P : V → Prop} {v : V} {k : List V → Option α} (e : onTup v k = some r) (f : ∀ i, k i = some r → P (.tup i)) : P v := by
  cases v <;> first | exact no_some e | exact f _ e
theorem onTup_some {v : V} {k : List V → Option α} (e : onTup v k = some r) : ∃ i, v = .tup i ∧ k i = some r := onTup_e (P := fun v => ∃ i, v = .tup i ∧ k i = some r) e fun i h => ⟨i, rfl, h⟩
@[elab_as_elim] theorem onS_e {P : V → Prop} {v : V} {k : List Nat → Option α} (e : onS v k = some r) (f : ∀ i, k i = some r → P (.str i)) : P v := by
  cases v <;> first | exact no_some e | exact f _ e
theorem onS_some {v : V} {k : List Nat → Option α} (e : onS v k = some r) : ∃ i, v = .str i ∧ k i = some r := onS_e (P := fun v => ∃ i, v = .str i ∧ k i = some r) e fun i h => ⟨i, rfl, h⟩
theorem onL_e {Q : Prop} {o : Option β} {k : β → Option α} (e : onL o k = some r) (f : ∀ x, o = some x → k x = some r → Q) : Q := by
  cases o with
  | none => exact no_some e
  | some x => exact f x rfl e
theorem onL_some {o : Option β} {k : β → Option α} (e : onL o k = some r) : ∃ x, o = some x ∧ k x = some r := onL_e e fun x a b => ⟨x, a, b⟩
theorem oC_l {o : AO} {k : List V → Option α} (e : oC none o (l := k) = some r) : ∃ i, o = .list i ∧ k i = some r := by
  cases o <;> first | exact no_some e | exact ⟨_, rfl, e⟩
theorem onLst_some {o : Option AO} {k : List V → Option α} (e : onLst o k = some r) : ∃ i, o = some (.list i) ∧ k i = some r :=
  onL_e e fun x a b => Exists.elim (oC_l b) fun i h => ⟨i, h.1 ▸ a, h.2⟩
@[elab_as_elim] theorem nilL_e {P : List β → Prop} {l : List β} {x : Option α} (e : nilL l x = some r) (f : x = some r → P []) : P l := by
  cases l with
  | nil => exact f e
  | cons v l => exact no_some e
theorem nilL_some {l : List β} {x : Option α} (e : nilL l x = some r) : l = [] ∧ x = some r := nilL_e (P := fun l => l = [] ∧ x = some r) e fun h => ⟨rfl, h⟩
@[elab_as_elim] theorem oneL_e {P : List β → Prop} {l : List β} {k : β → Option α} (e : oneL l k = some r) (f : ∀ v, k v = some r → P [v]) : P l := by
  cases l with
  | nil => exact no_some e
  | cons v l => exact nilL_e (P := fun l => P (v :: l)) e (f v)
theorem oneL_some {l : List β} {k : β → Option α} (e : oneL l k = some r) : ∃ v, l = [v] ∧ k v = some r := oneL_e (P := fun l => ∃ v, l = [v] ∧ k v = some r) e fun v h => ⟨v, rfl, h⟩
@[elab_as_elim] theorem twoL_e {P : List β → Prop} {l : List β} {k : β → β → Option α} (e : twoL l k = some r) (f : ∀ v w, k v w = some r → P [v, w]) : P l := by
  cases l with
  | nil => exact no_some e
  | cons v l => exact oneL_e (P := fun l => P (v :: l)) e (f v)
theorem twoL_some {l : List β} {k : β → β → Option α} (e : twoL l k = some r) : ∃ v w, l = [v, w] ∧ k v w = some r := twoL_e (P := fun l => ∃ v w, l = [v, w] ∧ k v w = some r) e fun v w h => ⟨v, w, rfl, h⟩
end
theorem onL_of {α β : Type} {o : Option β} {x : β} {k : β → Option α} (e : o = some x) : onL o k = k x := by rw [e]; rfl
theorem onLst_of {α : Type} {o : Option AO} {vs : List V} {k : List V → Option α} (e : o = some (.list vs)) : onLst o k = k vs := by rw [e]; rfl
noncomputable def iterO (i : Nat) (o : AO) : Option It := oC none o (l := fun z => some (.lst i 0)) (t := fun x y z => some (.obj i)) (r := fun y z => some (.obj i))
noncomputable def iterOf (v : V) (h : MH) : Option It := vC none v (s := fun s => some (.str s)) (r := fun i => onL h[i]? fun o => iterO i o) (g := fun a b c => if Builtin.Range.small a b c = true then some (.rng a (Builtin.Range.rangeSize a b c).toNat c) else none)

noncomputable def lstI (i k : Nat) (h : MH) (o : Option V) : Option (Option (V × It) × MH) := match o with
  | some v => some (some (v, .lst i (k + 1)), h)
  | none => some (none, h)
noncomputable def rstI (i l : Nat) (h : MH) (z : Int) : Option (Option (V × It) × MH) := match z with
  | .ofNat n => onLst h[l]? fun vs => onL vs[n]? fun v => some (some (v, .obj i), h.set i (.rit l ((n : Int) - 1)))
  | .negSucc m => match m with
    | 0 => some (none, h)
    | _ + 1 => none
noncomputable def onCit {α : Type} (o : AO) (f : Nat → Option α) : Option α := oC none o (t := fun k' j b => match b with
  | true => f k'
  | false => none)
noncomputable def citI (C : Call) (i k j : Nat) (h : MH) : Option (Option (V × It) × MH) := onL (C (.bm k j) [] h) fun p => onS p.1 fun s => onL p.2[i]? fun o => onCit o fun k' => match Nat.beq k k' with
  | true => match s with
    | [] => some (none, p.2.set i (.cit k j false))
    | _ :: _ => some (some (.str s, .obj i), p.2)
  | false => none
noncomputable def objI (C : Call) (i : Nat) (h : MH) (o : AO) : Option (Option (V × It) × MH) := oC none o (r := fun l z => rstI i l h z) (t := fun k j b => match b with
  | true => citI C i k j h
  | false => some (none, h))
noncomputable def nextI (C : Call) (it : It) (h : MH) : Option (Option (V × It) × MH) := match it with
  | .lst i k => onLst h[i]? fun vs => lstI i k h vs[k]?
  | .str s => match s with
    | [] => some (none, h)
    | c :: cs => some (some (.str [c], .str cs), h)
  | .rng x n c => match n with
    | 0 => some (none, h)
    | n + 1 => some (some (.int x, .rng (x + c) n c), h)
  | .obj i => onL h[i]? fun o => objI C i h o

noncomputable def mulOk (a b : Int) : Bool := !(decide (Builtin.Int.intBits a > shortFactorBits) && decide (Builtin.Int.intBits b > shortFactorBits) && Builtin.Int.intTooBig (Builtin.Int.intBits a + Builtin.Int.intBits b))

noncomputable def listAt (h : MH) (i : Nat) : Option (List V) := onLst h[i]? fun vs => some vs

noncomputable def int2 {α : Type} (a b : V) (k : Int → Int → Option α) : Option α := onI a fun x => onI b fun y => k x y
noncomputable def catL (h : MH) (a b : Option (List V)) : Option (V × MH) := match a with
  | some a => match b with
    | some b => if a.length + b.length ≤ 16777216 then some (.ref h.length, h ++ [.list (a ++ b)]) else none
    | none => none
  | none => none
noncomputable def addV (a b : V) (h : MH) : Option (V × MH) := vC none a (i := fun x => onI b fun y => some (.int (x + y), h)) (s := fun x => onS b fun y => if x.length + y.length ≤ 16777216 then some (.str (x ++ y), h) else none) (r := fun i => onR b fun j => catL h (listAt h i) (listAt h j))
noncomputable def repL (h : MH) (n : Int) (a : Option (List V)) : Option (V × MH) := match a with
  | some l => match l with
    | a :: r => match r with
      | [] => if 0 ≤ n ∧ n ≤ 16777216 then some (.ref h.length, h ++ [.list (List.replicate n.toNat a)]) else none
      | _ :: _ => none
    | [] => none
  | none => none
noncomputable def mulV (a b : V) (h : MH) : Option (V × MH) := vC none a (i := fun x => onI b fun y => if mulOk x y = true then some (.int (x * y), h) else none) (r := fun i => onI b fun n => repL h n (listAt h i))
noncomputable def binV (op : Operator) (a b : V) (h : MH) : Option (V × MH) := match op with
  | .Add => addV a b h
  | .Sub => int2 a b fun a b => some (.int (a - b), h)
  | .Mult => mulV a b h
  | .FloorDiv => int2 a b fun a b => if b ≠ 0 ∧ b.natAbs < 1073741824 then some (.int (a.fdiv b), h) else none
  | .Mod => int2 a b fun a b => if b ≠ 0 then some (.int (a.fmod b), h) else none
  | .Pow => int2 a b fun a b => if 0 ≤ b ∧ (Builtin.Int.intBits a : Int) * b ≤ 134217728 then some (.int (a ^ b.toNat), h) else none
  | .LShift => int2 a b fun a b => if 0 ≤ b ∧ (Builtin.Int.intBits a : Int) + b ≤ 134217728 then some (.int (a * 2 ^ b.toNat), h) else none
  | .RShift => int2 a b fun a b => if 0 ≤ b then some (.int (a.fdiv (2 ^ b.toNat)), h) else none
  | .BitAnd => int2 a b fun a b => some (.int (Builtin.bitAnd a b), h)
  | .BitOr => int2 a b fun a b => some (.int (Builtin.bitOr a b), h)
  | .BitXor => int2 a b fun a b => some (.int (Builtin.bitXor a b), h)
  | _ => none
noncomputable def iaddV (a b : V) (h : MH) : Option (V × MH) := vC none a (i := fun x => onI b fun y => some (.int (x + y), h)) (s := fun x => onS b fun y => if x.length + y.length ≤ 16777216 then some (.str (x ++ y), h) else none)
noncomputable def augV (op : Operator) (a b : V) (h : MH) : Option (V × MH) := match op with
  | .Add => iaddV a b h
  | .Sub => int2 a b fun a b => some (.int (a - b), h)
  | .LShift => int2 a b fun a b => if 0 ≤ b ∧ (Builtin.Int.intBits a : Int) + b ≤ 134217728 then some (.int (a * 2 ^ b.toNat), h) else none
  | .RShift => int2 a b fun a b => if 0 ≤ b then some (.int (a.fdiv (2 ^ b.toNat)), h) else none
  | _ => none
theorem int2_some {α : Type} {a b : V} {k : Int → Int → Option α} {r : α} (e : int2 a b k = some r) : ∃ x y, a = .int x ∧ b = .int y ∧ k x y = some r :=
  onI_e (P := fun a => ∃ x y, a = .int x ∧ b = .int y ∧ k x y = some r) e fun x e => onI_e (P := fun b => ∃ x' y, V.int x = .int x' ∧ b = .int y ∧ k x' y = some r) e fun y e => ⟨x, y, rfl, rfl, e⟩
theorem if_some {α : Type} {p : Prop} [d : Decidable p] {x r : α} (e : (if p then some x else none) = some r) : p ∧ x = r := by
  cases d with
  | isTrue h => exact ⟨h, Option.some.inj e⟩
  | isFalse => exact no_some e

noncomputable def natsEq : List Nat → List Nat → Bool
  | [], q => match q with
    | [] => true
    | _ :: _ => false
  | a :: r, q => match q with
    | [] => false
    | b :: q => match Nat.beq a b with
      | true => natsEq r q
      | false => false

/-- lists of ints and texts -/
noncomputable def atomB (v : V) : Bool := vC false v (i := fun z => true) (s := fun s => PyData.strOk ⟨s.toArray⟩)
noncomputable def allAtoms : List V → Bool
  | [] => true
  | v :: r => atomB v && allAtoms r
noncomputable def eqAtom (a b : V) : Bool := vC false a (i := fun x => vC false b (i := fun y => decide (x = y))) (s := fun x => vC false b (s := fun y => natsEq x y))
noncomputable def eqAtoms : List V → List V → Bool
  | [], q => match q with
    | [] => true
    | _ :: _ => false
  | a :: r, q => match q with
    | [] => false
    | b :: q => eqAtom a b && eqAtoms r q
theorem allAtoms_cons {v : V} {r : List V} : allAtoms (v :: r) = (atomB v && allAtoms r) := rfl
theorem eqAtoms_cons {v w : V} {r q : List V} : eqAtoms (v :: r) (w :: q) = (eqAtom v w && eqAtoms r q) := rfl
@[elab_as_elim] theorem atomB_e {P : V → Prop} {v : V} (h : atomB v = true) (i : ∀ i, P (.int i)) (s : ∀ s, PyData.strOk ⟨s.toArray⟩ = true → P (.str s)) : P v := by
  cases v <;> first | exact i _ | exact s _ h | exact nomatch (show false = true from h)
noncomputable def eqLs (a b : List V) : Option Bool := if (allAtoms a && allAtoms b) = true then some (eqAtoms a b) else none
noncomputable def eqV (a b : V) (h : MH) : Option Bool := vC none a (i := fun a => onI b fun b => some (decide (a = b))) (s := fun a => onS b fun b => some (natsEq a b)) (b := fun a => onB b fun b => some (a == b)) (t := fun a => onTup b fun b => eqLs a b) (r := fun i => onR b fun j => onL (listAt h i) fun a => onL (listAt h j) fun b => eqLs a b)
noncomputable def onlyStr : List V → Bool
  | [] => true
  | v :: r => vC false v (s := fun z => onlyStr r)
noncomputable def inStr (x : List Nat) : List V → Bool
  | [] => false
  | v :: r => vC false v (s := fun y => match natsEq y x with
    | true => true
    | false => inStr x r)
noncomputable def inSigns (c : Nat) : List Nat → Bool
  | [] => false
  | d :: r => match Nat.beq d c with
    | true => true
    | false => inSigns c r
noncomputable def inV (a b : V) (h : MH) : Option Bool := onS a fun x => vC none b (r := fun j => onL (listAt h j) fun vs => if onlyStr vs = true then some (inStr x vs) else none) (s := fun y => oneL x fun c => some (inSigns c y))
noncomputable def cmpV (op : CmpOp) (a b : V) (h : MH) : Option Bool := match op with
  | .Eq => eqV a b h
  | .NotEq => (eqV a b h).map (!·)
  | .Lt => int2 a b fun a b => some (decide (a < b))
  | .LtE => int2 a b fun a b => some (decide (a ≤ b))
  | .Gt => int2 a b fun a b => some (decide (b < a))
  | .GtE => int2 a b fun a b => some (decide (b ≤ a))
  | .In => inV a b h
  | .NotIn => (inV a b h).map (!·)
  | _ => none

noncomputable def fullL {α : Type} (l : List α) : Bool := match l with
  | [] => false
  | _ :: _ => true
noncomputable def trueV (v : V) (h : MH) : Option Bool := V.casesOn (motive_1 := fun _ => Option Bool) v (some false) (fun b => some b) (fun a => some (!decide (a = 0))) (fun s => if s.length ≤ 16777216 then some (fullL s) else none) (fun z => none) (fun i => onL (listAt h i) fun vs => if vs.length ≤ 16777216 then some (fullL vs) else none) (fun z => none) (fun x y z => none) (fun y z => none) (fun y z => none)

noncomputable def sliceS {α : Type} (l : List α) (lo hi : Option Int) : List α := if ((Builtin.Str.strSliceIndices lo hi 1 l.length).length == l.length) = true then l else (Builtin.Str.strSliceIndices lo hi 1 l.length).filterMap (l[·]?)
noncomputable def sliceL {α : Type} (l : List α) (lo hi : Option Int) : List α :=
  (sliceRange (sliceBounds lo hi none l.length).1 (sliceBounds lo hi none l.length).2.1 (sliceBounds lo hi none l.length).2.2).filterMap (l[·]?)
noncomputable def partOf (v : V) : Option (Option Int) := V.casesOn (motive_1 := fun _ => Option (Option Int)) v (some none) (fun z => none) (fun i => some (some i)) (fun z => none) (fun z => none) (fun z => none) (fun z => none) (fun x y z => none) (fun y z => none) (fun y z => none)
noncomputable def slcV (v a b : V) (h : MH) : Option (V × MH) := onL (partOf a) fun lo => onL (partOf b) fun hi => vC none v (s := fun s => if s.length ≤ 16777216 then some (.str (sliceS s lo hi), h) else none) (r := fun i => onL (listAt h i) fun vs => if vs.length ≤ 16777216 then some (.ref h.length, h ++ [.list (sliceL vs lo hi)]) else none)
noncomputable def onNat {α : Type} (v : V) (f : Nat → Option α) : Option α := onI v fun z => match z with
  | .ofNat k => f k
  | .negSucc _ => none
theorem onNat_some {α : Type} {v : V} {f : Nat → Option α} {r : α} (e : onNat v f = some r) : ∃ k : Nat, v = .int k ∧ f k = some r := by
  obtain ⟨z, e1, e2⟩ := onI_some e
  cases z with
  | ofNat k => exact ⟨k, e1, e2⟩
  | negSucc k => exact no_some e2
noncomputable def idxV (a b : V) (h : MH) : Option V := vC none a (r := fun i => onNat b fun k => onL (listAt h i) fun vs => if k < 16777216 then vs[k]? else none) (t := fun vs => onNat b fun k => if k < 16777216 then vs[k]? else none) (s := fun s => onI b fun k => if k.natAbs < 16777216 then onL (seqIndex? k s.length) fun j => onL s[j]? fun c => some (.str [c]) else none)
noncomputable def setIV (a b v : V) (h : MH) : Option MH := onR a fun i => onNat b fun k => onL (listAt h i) fun vs => if k < vs.length ∧ k < 16777216 then some (h.set i (.list (vs.set k v))) else none

noncomputable def onInst {α : Type} (o : Option AO) (k : Nat → Nat → Option α) : Option α := onL o fun o => oC none o (i := k)
noncomputable def onDict {α : Type} (o : Option AO) (k : List (Nat × V) → Option α) : Option α := onL o fun o => oC none o (k := k)
theorem oC_i {α : Type} {r : α} {o : AO} {k : Nat → Nat → Option α} (e : oC none o (i := k) = some r) : ∃ c d, o = .inst c d ∧ k c d = some r := by
  cases o <;> first | exact no_some e | exact ⟨_, _, rfl, e⟩
theorem onInst_some {α : Type} {r : α} {o : Option AO} {k : Nat → Nat → Option α} (e : onInst o k = some r) : ∃ c d, o = some (.inst c d) ∧ k c d = some r :=
  onL_e e fun x a b => Exists.elim (oC_i b) fun i h => Exists.elim h fun j h => ⟨i, j, h.1 ▸ a, h.2⟩
theorem oC_k {α : Type} {r : α} {o : AO} {k : List (Nat × V) → Option α} (e : oC none o (k := k) = some r) : ∃ kv, o = .dict kv ∧ k kv = some r := by
  cases o <;> first | exact no_some e | exact ⟨_, rfl, e⟩
theorem onDict_some {α : Type} {r : α} {o : Option AO} {k : List (Nat × V) → Option α} (e : onDict o k = some r) : ∃ kv, o = some (.dict kv) ∧ k kv = some r :=
  onL_e e fun x a b => Exists.elim (oC_k b) fun i h => ⟨i, h.1 ▸ a, h.2⟩
noncomputable def iff {α : Type} (b : Bool) (x : Option α) : Option α := match b with
  | true => x
  | false => none
theorem iff_some {α : Type} {r : α} {b : Bool} {x : Option α} (e : iff b x = some r) : b = true ∧ x = some r := by
  cases b with
  | true => exact ⟨rfl, e⟩
  | false => exact no_some e
theorem onInst_of {α : Type} {o : Option AO} {c d : Nat} {k : Nat → Nat → Option α} (e : o = some (.inst c d)) : onInst o k = k c d := by rw [e]; rfl
theorem onDict_of {α : Type} {o : Option AO} {kv : List (Nat × V)} {k : List (Nat × V) → Option α} (e : o = some (.dict kv)) : onDict o k = k kv := by rw [e]; rfl
theorem iff_of {α : Type} {b : Bool} {x : Option α} (e : b = true) : iff b x = x := by rw [e]; rfl
/-- an object's own datum, or a method of its class -/
noncomputable def getV {α : Type} (G : Gl) (i n : Nat) (h : MH) (dat : V → α) (mth : Nat → α) : Option α := onInst h[i]? fun c d => onDict h[d]? fun kv => match lk kv n with
  | some v => iff (G.dat c n) (some (dat v))
  | none => iff (Nat.ble n 399) (onL (G.m c n) fun k => some (mth k))
theorem getV_dat {α : Type} {G : Gl} {i n c d : Nat} {h : MH} {kv : List (Nat × V)} {v : V} {dat : V → α} {mth : Nat → α} (hi : h[i]? = some (.inst c d)) (hd : h[d]? = some (.dict kv)) (hl : lk kv n = some v) (g : G.dat c n = true) :
    getV G i n h dat mth = some (dat v) := by
  refine (onInst_of hi).trans ((onDict_of hd).trans ?_)
  rw [hl]
  exact iff_of g
theorem getV_mth {α : Type} {G : Gl} {i n c d k : Nat} {h : MH} {kv : List (Nat × V)} {dat : V → α} {mth : Nat → α} (hi : h[i]? = some (.inst c d)) (hd : h[d]? = some (.dict kv)) (hl : lk kv n = none) (hn : Nat.ble n 399 = true) (g : G.m c n = some k) :
    getV G i n h dat mth = some (mth k) := by
  refine (onInst_of hi).trans ((onDict_of hd).trans ?_)
  rw [hl]
  exact (iff_of hn).trans (onL_of g)
noncomputable def attV (G : Gl) (v : V) (n : Nat) (h : MH) : Option V := vC none v (r := fun i => getV G i n h (fun v => v) (fun k => .bm k i)) (c := fun k => G.a k n)
noncomputable def setAV (G : Gl) (a : V) (n : Nat) (v : V) (h : MH) : Option MH := onR a fun i => onInst h[i]? fun c d => onDict h[d]? fun kv => iff (G.dat c n) (iff (Nat.ble n 399) (iff (Nat.ble kv.length 50) (some (h.set d (.dict (put kv n v))))))

inductive Callee where
  | bi (self : V)
  | val (f : V) (pre : List V)
noncomputable def calleeO (G : Gl) (i n : Nat) (h : MH) (o : AO) : Option Callee := oC none o (l := fun z => some (.bi (.ref i))) (i := fun y z => getV G i n h (fun v => .val v []) (fun k => .val (.con k) [.ref i]))
noncomputable def calleeV (G : Gl) (v : V) (n : Nat) (h : MH) : Option Callee := vC none v (s := fun s => some (.bi (.str s))) (i := fun i => some (.bi (.int i))) (r := fun i => onL h[i]? fun o => calleeO G i n h o)

/- the numbers of the built-in methods' names -/
noncomputable abbrev nAppend := 1
noncomputable abbrev nPop := 2
noncomputable abbrev nReverse := 3
noncomputable abbrev nLower := 4
noncomputable abbrev nJoin := 5
noncomputable abbrev nCount := 6
noncomputable abbrev nIndex := 7
noncomputable abbrev nBits := 8
noncomputable def strsOf : List V → Option (List (List Nat))
  | [] => some []
  | v :: r => onS v fun s => onL (strsOf r) fun q => some (s :: q)
noncomputable def intsOf : List V → Option (List Int)
  | [] => some []
  | v :: r => onI v fun s => onL (intsOf r) fun q => some (s :: q)
noncomputable def joinE : List (List Nat) → List Nat
  | [] => []
  | s :: r => s ++ joinE r
noncomputable def countSign (c : Nat) : List Nat → Nat
  | [] => 0
  | d :: r => match Nat.beq d c with
    | true => countSign c r + 1
    | false => countSign c r
noncomputable def firstSign (c : Nat) : List Nat → Nat → Option Nat
  | [], _ => none
  | d :: r, k => match Nat.beq d c with
    | true => some k
    | false => firstSign c r (k + 1)
/-- the signs whose lower sign is asked: a blank, a tab -/
noncomputable def blankTab (c : Nat) : Bool := match Nat.beq c 32 with
  | true => true
  | false => Nat.beq c 9
noncomputable def popV (i : Nat) (vs : List V) (h : MH) : Option (V × MH) := match vs with
  | [] => onL (listAt h i) fun vs => onL vs[vs.length - 1]? fun v => if vs.length ≤ 16777215 then some (v, h.set i (.list (vs.take (vs.length - 1)))) else none
  | a :: r => nilL r (onI a fun k => onL (listAt h i) fun vs => match vs with
    | v :: vs => if k = 0 ∧ vs.length ≤ 16777214 then some (v, h.set i (.list vs)) else none
    | [] => none)
noncomputable def biM (m : Nat) (self : V) (vs : List V) (h : MH) : Option (V × MH) := match Nat.beq m 1 with
  | true => onR self fun i => oneL vs fun v => onL (listAt h i) fun vs => if vs.length ≤ 16777215 then some (.none, h.set i (.list (vs ++ [v]))) else none
  | false => match Nat.beq m 2 with
    | true => onR self fun i => popV i vs h
    | false => match Nat.beq m 3 with
      | true => onR self fun i => nilL vs (onL (listAt h i) fun vs => if vs.length ≤ 16777215 then some (.none, h.set i (.list vs.reverse)) else none)
      | false => match Nat.beq m 4 with
        | true => onS self fun s => oneL s fun c => nilL vs (if blankTab c = true then some (.str [c], h) else none)
        | false => match Nat.beq m 5 with
          | true => onS self fun s => nilL s (oneL vs fun a => onR a fun i => onL (listAt h i) fun vs => onL (strsOf vs) fun ss => if (joinE ss).length ≤ 16777216 then some (.str (joinE ss), h) else none)
          | false => match Nat.beq m 6 with
            | true => onS self fun s => oneL vs fun a => onS a fun t => oneL t fun c => some (.int (countSign c s), h)
            | false => match Nat.beq m 7 with
              | true => onS self fun s => oneL vs fun a => onS a fun t => oneL t fun c => onL (firstSign c s 0) fun k => some (.int k, h)
              | false => match Nat.beq m 8 with
                | true => onI self fun a => nilL vs (some (.int (Builtin.Int.intBits a : Nat), h))
                | false => none

noncomputable def insertS (x : List Nat) : List (List Nat) → List (List Nat)
  | [] => [x]
  | y :: r => if Spec.ltCps y x = true then y :: insertS x r else x :: y :: r
noncomputable def sortS : List (List Nat) → List (List Nat)
  | [] => []
  | x :: r => insertS x (sortS r)

noncomputable def lenV (v : V) (h : MH) : Option (V × MH) := vC none v (s := fun s => if s.length < 16777217 then some (.int s.length, h) else none) (t := fun vs => if vs.length < 16777217 then some (.int vs.length, h) else none) (r := fun i => onL (listAt h i) fun vs => if vs.length < 16777217 then some (.int vs.length, h) else none)
noncomputable def rangeV (vs : List V) (h : MH) : Option (V × MH) := match vs with
  | [] => none
  | a :: r => match r with
    | [] => onI a fun b => some (.rng 0 b 1, h)
    | b :: r => match r with
      | [] => int2 a b fun a b => some (.rng a b 1, h)
      | c :: r => nilL r (int2 a b fun a b => onI c fun c => if c ≠ 0 ∧ c.natAbs < 1073741824 then some (.rng a b c, h) else none)
noncomputable def iterV (a b : V) (h : MH) : Option (V × MH) := vC none a (m := fun k i => onS b fun s => nilL s (some (.ref h.length, h ++ [.cit k i true])))
noncomputable def mmV (two : Int → Int → Int) (fold : Int → Int → Int) (vs : List V) (h : MH) : Option (V × MH) := match vs with
  | [] => none
  | a :: r => match r with
    | [] => onR a fun i => onL (listAt h i) fun vs => onL (intsOf vs) fun ns => match ns with
      | n :: ns => some (.int (ns.foldl fold n), h)
      | [] => none
    | b :: r => nilL r (int2 a b fun a b => some (.int (two a b), h))
noncomputable def listV (v : V) (h : MH) : Option (V × MH) := vC none v (s := fun s => if s.length < 16777217 then some (.ref h.length, h ++ [.list (s.map fun c => .str [c])]) else none) (g := fun a b c => if Builtin.Range.small a b c = true ∧ Builtin.Range.rangeSize a b c ≤ 1048576 then some (.ref h.length, h ++ [.list ((List.range (Builtin.Range.rangeSize a b c).toNat).map fun (k : Nat) => .int (a + k * c))]) else none)
noncomputable def primV (p : Prim) (vs : List V) (h : MH) : Option (V × MH) := match p with
  | .len => oneL vs fun v => lenV v h
  | .divmod => twoL vs fun a b => int2 a b fun a b => if b ≠ 0 ∧ Builtin.divisionGoesByPylong a b = false then some (.tup [.int (a.fdiv b), .int (a.fmod b)], h) else none
  | .rev => oneL vs fun v => onR v fun i => onL (listAt h i) fun vs => some (.ref h.length, h ++ [.rit i ((vs.length : Int) - 1)])
  | .range => rangeV vs h
  | .iter => twoL vs fun a b => iterV a b h
  | .sum => oneL vs fun v => onR v fun i => onL (listAt h i) fun vs => onL (intsOf vs) fun ns => some (.int ns.sum, h)
  | .min => mmV (fun a b => if b < a then b else a) min vs h
  | .max => mmV (fun a b => if b > a then b else a) max vs h
  | .sorted => oneL vs fun v => onR v fun i => onL (listAt h i) fun vs => onL (strsOf vs) fun ss => if ss.length < 64 then some (.ref h.length, h ++ [.list ((sortS ss).map .str)]) else none
  | .tuple => oneL vs fun v => onR v fun i => onL (listAt h i) fun vs => if vs.length < 16777217 then some (.tup vs, h) else none
  | .list => oneL vs fun v => listV v h

noncomputable def pushAt (h : MH) (i : Nat) (v : V) : Option MH := onL (listAt h i) fun vs => if vs.length ≤ 16777215 then some (h.set i (.list (vs ++ [v]))) else none
/-! an answer that is had, taken apart -/
theorem bnd_e {α β : Type} {o : Option α} {k : α → Option β} {r : β} {P : Prop} (e : o.bind k = some r) (f : ∀ a, o = some a → k a = some r → P) : P := by
  cases o with
  | none => exact no_some e
  | some a => exact f a rfl e
@[elab_as_elim] theorem map_e {α β : Type} {P : β → Prop} {o : Option α} {k : α → β} {r : β} (e : o.map k = some r) (f : ∀ a, o = some a → P (k a)) : P r := by
  cases o with
  | none => exact no_some e
  | some a =>
    cases e
    exact f a rfl
@[elab_as_elim] theorem some_e {α : Type} {P : α → Prop} {a b : α} (e : some a = some b) (f : P a) : P b := by
  cases e
  exact f
@[elab_as_elim] theorem ifs_e {α : Type} {P : α → Prop} {c : Prop} [d : Decidable c] {a b : α} (e : (if c then some a else none) = some b) (f : c → P a) : P b := by
  cases d with
  | isTrue h => exact some_e e (f h)
  | isFalse => exact no_some e
theorem bif_e {α : Type} {b : Bool} {x y : α} {r : α} {P : Prop} (e : (bif b then x else y) = r) (f : b = true → x = r → P) (g : b = false → y = r → P) : P := by
  cases b with
  | true => exact f rfl e
  | false => exact g rfl e
theorem and_e {a b : Bool} {P : Prop} (m : (a && b) = true) (k : a = true → b = true → P) : P := by
  cases a with
  | true => exact k rfl m
  | false => exact nomatch m
@[elab_as_elim] theorem dec_e {α : Type} {a b : α} {d : Decidable (a = b)} {P : α → Prop} (m : @decide (a = b) d = true) (k : P a) : P b := by
  cases of_decide_eq_true m
  exact k
theorem neg_e {b : Bool} (m : (!b) = true) : b = false := by
  cases b with
  | true => exact nomatch m
  | false => rfl

noncomputable def onSm {α β : Type} (o : Option β) (x : α) (k : β → α) : α := match o with
  | some y => k y
  | none => x
noncomputable def compL (nx : It → MH → Option (Option (V × It) × MH)) (cond : V → MH → Option (Bool × MH)) (elt : V → MH → Option (V × MH)) (acc : Nat) : Nat → It → MH → Option MH
  | 0, _, _ => none
  | n + 1, it, h => (nx it h).bind fun p => onSm p.1 (some p.2) fun x => (cond x.1 p.2).bind fun b => bif b.1 then (elt x.1 b.2).bind fun w => (pushAt w.2 acc w.1).bind fun h4 => compL nx cond elt acc n x.2 h4 else compL nx cond elt acc n x.2 b.2

noncomputable def celV (o : Option AO) : Option V := onL o fun o => oC none o (c := fun v => v)
noncomputable def onCel {α : Type} (o : Option AO) (x : Option α) : Option α := onL o fun o => oC none o (c := fun z => x)
theorem celV_some {o : Option AO} {v : V} (e : celV o = some v) : o = some (.cell (some v)) := by
  cases o with
  | none => exact no_some e
  | some o => cases o <;> first | exact no_some e | exact congrArg (fun v => some (AO.cell v)) e
theorem onCel_some {α : Type} {o : Option AO} {x : Option α} {r : α} (e : onCel o x = some r) : ∃ v, o = some (.cell v) ∧ x = some r := by
  cases o with
  | none => exact no_some e
  | some o => cases o <;> first | exact no_some e | exact ⟨_, rfl, e⟩
noncomputable def goOn (o : BoolOp) (b : Bool) : Bool := match o with
  | .And => b
  | .Or => !b
noncomputable def andB (o : BoolOp) : Bool := match o with
  | .And => true
  | .Or => false
noncomputable def runM (C : Call) (x : Nat) (c : Callee) (vs : List V) (h : MH) : Option (V × MH) := match c with
  | .bi self => biM x self vs h
  | .val f pre => C f (pre ++ vs) h

theorem runM_e {C : Call} {x : Nat} {c : Callee} {vs : List V} {h : MH} {r : V × MH} {o : Option Callee} {Q : Prop} (e0 : o = some c) (e : runM C x c vs h = some r) (k : ∀ self, o = some (.bi self) → biM x self vs h = some r → Q) (k2 : ∀ g pre, o = some (.val g pre) → C g (pre ++ vs) h = some r → Q) : Q := by
  cases c with
  | bi self => exact k self e0 e
  | val g pre => exact k2 g pre e0 e
theorem pr_e {o : Option (Bool × MH)} {p : Bool × MH} {b : Bool} (e : o = some p) (g : p.1 = b) : o = some (b, p.2) := g ▸ e

noncomputable abbrev FE := Fr → MH → Option (V × MH)
noncomputable abbrev FT := Fr → MH → Option (Bool × MH)
noncomputable abbrev FL := (Fr → MH → Option (List V × MH)) × (BoolOp → V → Fr → MH → Option (V × MH))
noncomputable abbrev FA := BoolOp → Fr → MH → Option (Bool × MH)
section
variable (G : Gl) (C : Call) (n : Nat)
noncomputable def e_lit (v : V) : FE := fun _ h => some (v, h)
noncomputable def e_loc (x : Nat) : FE := fun fr h => (lk fr.loc x).map (·, h)
noncomputable def e_cel (x : Nat) : FE := fun fr h => ((lk fr.cel x).bind fun i => celV h[i]?).map (·, h)
noncomputable def e_glb (x : Nat) : FE := fun _ h => (G.g x).map (·, h)
noncomputable def e_bin (op : Operator) (a b : FE) : FE := fun fr h => (a fr h).bind fun p => (b fr p.2).bind fun q => binV op p.1 q.1 q.2
noncomputable def e_neg (a : FE) : FE := fun fr h => (a fr h).bind fun p => onI p.1 fun i => some (.int (-i), p.2)
noncomputable def e_inv (a : FE) : FE := fun fr h => (a fr h).bind fun p => onI p.1 fun i => some (.int (Builtin.bitNot i), p.2)
noncomputable def e_cmp (op : CmpOp) (a b : FE) : FE := fun fr h => (a fr h).bind fun p => (b fr p.2).bind fun q => (cmpV op p.1 q.1 q.2).map fun r => (.bool r, q.2)
noncomputable def e_not (a : FE) : FE := fun fr h => (a fr h).bind fun p => (trueV p.1 p.2).map fun r => (.bool (!r), p.2)
noncomputable def e_bop (o : BoolOp) (e : FE) (es : FL) : FE := fun fr h => (e fr h).bind fun p => es.2 o p.1 fr p.2
noncomputable def e_ife (t : FT) (a b : FE) : FE := fun fr h => (t fr h).bind fun p => bif p.1 then a fr p.2 else b fr p.2
noncomputable def e_lst (es : FL) : FE := fun fr h => (es.1 fr h).bind fun p => if p.1.length ≤ 16777216 then some (.ref p.2.length, p.2 ++ [.list p.1]) else none
noncomputable def e_tup (es : FL) : FE := fun fr h => (es.1 fr h).bind fun p => if p.1.length ≤ 16777216 then some (.tup p.1, p.2) else none
noncomputable def e_idx (o i : FE) : FE := fun fr h => (o fr h).bind fun p => (i fr p.2).bind fun q => (idxV p.1 q.1 q.2).map (·, q.2)
noncomputable def e_slc (o lo hi : FE) : FE := fun fr h => (o fr h).bind fun p => (lo fr p.2).bind fun q => (hi fr q.2).bind fun r => slcV p.1 q.1 r.1 r.2
noncomputable def e_att (o : FE) (x : Nat) : FE := fun fr h => (o fr h).bind fun p => (attV G p.1 x p.2).map (·, p.2)
noncomputable def e_call (f : FE) (args : FL) : FE := fun fr h => (f fr h).bind fun p => (args.1 fr p.2).bind fun q => C p.1 q.1 q.2
noncomputable def e_prim (p : Prim) (args : FL) : FE := fun fr h => (args.1 fr h).bind fun q => primV p q.1 q.2
noncomputable def e_mth (o : FE) (x : Nat) (args : FL) : FE := fun fr h => (o fr h).bind fun p => (calleeV G p.1 x p.2).bind fun c => (args.1 fr p.2).bind fun q => runM C x c q.1 q.2
noncomputable def e_comp (elt : FE) (x : Nat) (it : FE) (fv : List Nat) : FE := fun fr h => (it fr h).bind fun p => (iterOf p.1 p.2).bind fun j => iff (fv.all (fun y => (lk fr.cel y).isSome)) ((compL (nextI C) (fun _ h => some (true, h)) (fun v h => elt ⟨[(x, v)], fr.cel⟩ h) p.2.length n j (p.2 ++ [.list []])).map fun h2 => (.ref p.2.length, h2))
noncomputable def e_compIf (elt : FE) (x : Nat) (it : FE) (cond : FT) (fv : List Nat) : FE := fun fr h => (it fr h).bind fun p => (iterOf p.1 p.2).bind fun j => iff (fv.all (fun y => (lk fr.cel y).isSome)) ((compL (nextI C) (fun v h => cond ⟨[(x, v)], fr.cel⟩ h) (fun v h => elt ⟨[(x, v)], fr.cel⟩ h) p.2.length n j (p.2 ++ [.list []])).map fun h2 => (.ref p.2.length, h2))
noncomputable def e_lam (k : Nat) (fv : List Nat) : FE := fun fr h => (fv.mapM (lk fr.cel)).map fun cs => (.clo k cs, h)
noncomputable def l_nil : FL := (fun _ h => some ([], h), fun _ v _ h => some (v, h))
noncomputable def l_cons (e : FE) (es : FL) : FL := (fun fr h => (e fr h).bind fun p => (es.1 fr p.2).map fun q => (p.1 :: q.1, q.2), fun o v fr h => (trueV v h).bind fun b => bif goOn o b then (e fr h).bind fun p => es.2 o p.1 fr p.2 else some (v, h))
noncomputable def t_val (e : FE) : FT := fun fr h => (e fr h).bind fun p => (trueV p.1 p.2).map (·, p.2)
noncomputable def t_not (a : FT) : FT := fun fr h => (a fr h).map fun p => (!p.1, p.2)
noncomputable def t_bop (o : BoolOp) (ts : FA) : FT := fun fr h => ts o fr h
noncomputable def t_ife (t a b : FT) : FT := fun fr h => (t fr h).bind fun p => bif p.1 then a fr p.2 else b fr p.2
noncomputable def t_cmp (op : CmpOp) (a b : FE) : FT := fun fr h => (a fr h).bind fun p => (b fr p.2).bind fun q => (cmpV op p.1 q.1 q.2).map (·, q.2)
noncomputable def a_nil : FA := fun o _ h => some (andB o, h)
noncomputable def a_cons (e : FT) (es : FA) : FA := fun o fr h => (e fr h).bind fun p => bif goOn o p.1 then es o fr p.2 else some (p.1, p.2)
noncomputable def fE (e : E) : FE := E.rec (motive_1 := fun _ => FE) (motive_2 := fun _ => FL) (motive_3 := fun _ => FT) (motive_4 := fun _ => FA) (fun v => e_lit  v) (fun x => e_loc  x) (fun x => e_cel  x) (fun x => e_glb G x) (fun op a b r_a r_b => e_bin  op r_a r_b) (fun a r_a => e_neg  r_a) (fun a r_a => e_inv  r_a) (fun op a b r_a r_b => e_cmp  op r_a r_b) (fun a r_a => e_not  r_a) (fun o e es r_e r_es => e_bop  o r_e r_es) (fun t a b r_t r_a r_b => e_ife  r_t r_a r_b) (fun es r_es => e_lst  r_es) (fun es r_es => e_tup  r_es) (fun o i r_o r_i => e_idx  r_o r_i) (fun o lo hi r_o r_lo r_hi => e_slc  r_o r_lo r_hi) (fun o x r_o => e_att G r_o x) (fun f args r_f r_args => e_call C r_f r_args) (fun p args r_args => e_prim  p r_args) (fun o x args r_o r_args => e_mth G C r_o x r_args) (fun elt x it fv r_elt r_it => e_comp C n r_elt x r_it fv) (fun elt x it cond fv r_elt r_it r_cond => e_compIf C n r_elt x r_it r_cond fv) (fun k fv => e_lam  k fv) (l_nil ) (fun e es r_e r_es => l_cons  r_e r_es) (fun e r_e => t_val  r_e) (fun a r_a => t_not  r_a) (fun o ts r_ts => t_bop  o r_ts) (fun t a b r_t r_a r_b => t_ife  r_t r_a r_b) (fun op a b r_a r_b => t_cmp  op r_a r_b) (a_nil ) (fun e es r_e r_es => a_cons  r_e r_es) e
noncomputable def fL (e : Es) : FL := Es.rec (motive_1 := fun _ => FE) (motive_2 := fun _ => FL) (motive_3 := fun _ => FT) (motive_4 := fun _ => FA) (fun v => e_lit  v) (fun x => e_loc  x) (fun x => e_cel  x) (fun x => e_glb G x) (fun op a b r_a r_b => e_bin  op r_a r_b) (fun a r_a => e_neg  r_a) (fun a r_a => e_inv  r_a) (fun op a b r_a r_b => e_cmp  op r_a r_b) (fun a r_a => e_not  r_a) (fun o e es r_e r_es => e_bop  o r_e r_es) (fun t a b r_t r_a r_b => e_ife  r_t r_a r_b) (fun es r_es => e_lst  r_es) (fun es r_es => e_tup  r_es) (fun o i r_o r_i => e_idx  r_o r_i) (fun o lo hi r_o r_lo r_hi => e_slc  r_o r_lo r_hi) (fun o x r_o => e_att G r_o x) (fun f args r_f r_args => e_call C r_f r_args) (fun p args r_args => e_prim  p r_args) (fun o x args r_o r_args => e_mth G C r_o x r_args) (fun elt x it fv r_elt r_it => e_comp C n r_elt x r_it fv) (fun elt x it cond fv r_elt r_it r_cond => e_compIf C n r_elt x r_it r_cond fv) (fun k fv => e_lam  k fv) (l_nil ) (fun e es r_e r_es => l_cons  r_e r_es) (fun e r_e => t_val  r_e) (fun a r_a => t_not  r_a) (fun o ts r_ts => t_bop  o r_ts) (fun t a b r_t r_a r_b => t_ife  r_t r_a r_b) (fun op a b r_a r_b => t_cmp  op r_a r_b) (a_nil ) (fun e es r_e r_es => a_cons  r_e r_es) e
noncomputable def fT (e : T) : FT := T.rec (motive_1 := fun _ => FE) (motive_2 := fun _ => FL) (motive_3 := fun _ => FT) (motive_4 := fun _ => FA) (fun v => e_lit  v) (fun x => e_loc  x) (fun x => e_cel  x) (fun x => e_glb G x) (fun op a b r_a r_b => e_bin  op r_a r_b) (fun a r_a => e_neg  r_a) (fun a r_a => e_inv  r_a) (fun op a b r_a r_b => e_cmp  op r_a r_b) (fun a r_a => e_not  r_a) (fun o e es r_e r_es => e_bop  o r_e r_es) (fun t a b r_t r_a r_b => e_ife  r_t r_a r_b) (fun es r_es => e_lst  r_es) (fun es r_es => e_tup  r_es) (fun o i r_o r_i => e_idx  r_o r_i) (fun o lo hi r_o r_lo r_hi => e_slc  r_o r_lo r_hi) (fun o x r_o => e_att G r_o x) (fun f args r_f r_args => e_call C r_f r_args) (fun p args r_args => e_prim  p r_args) (fun o x args r_o r_args => e_mth G C r_o x r_args) (fun elt x it fv r_elt r_it => e_comp C n r_elt x r_it fv) (fun elt x it cond fv r_elt r_it r_cond => e_compIf C n r_elt x r_it r_cond fv) (fun k fv => e_lam  k fv) (l_nil ) (fun e es r_e r_es => l_cons  r_e r_es) (fun e r_e => t_val  r_e) (fun a r_a => t_not  r_a) (fun o ts r_ts => t_bop  o r_ts) (fun t a b r_t r_a r_b => t_ife  r_t r_a r_b) (fun op a b r_a r_b => t_cmp  op r_a r_b) (a_nil ) (fun e es r_e r_es => a_cons  r_e r_es) e
noncomputable def fA (e : Ts) : FA := Ts.rec (motive_1 := fun _ => FE) (motive_2 := fun _ => FL) (motive_3 := fun _ => FT) (motive_4 := fun _ => FA) (fun v => e_lit  v) (fun x => e_loc  x) (fun x => e_cel  x) (fun x => e_glb G x) (fun op a b r_a r_b => e_bin  op r_a r_b) (fun a r_a => e_neg  r_a) (fun a r_a => e_inv  r_a) (fun op a b r_a r_b => e_cmp  op r_a r_b) (fun a r_a => e_not  r_a) (fun o e es r_e r_es => e_bop  o r_e r_es) (fun t a b r_t r_a r_b => e_ife  r_t r_a r_b) (fun es r_es => e_lst  r_es) (fun es r_es => e_tup  r_es) (fun o i r_o r_i => e_idx  r_o r_i) (fun o lo hi r_o r_lo r_hi => e_slc  r_o r_lo r_hi) (fun o x r_o => e_att G r_o x) (fun f args r_f r_args => e_call C r_f r_args) (fun p args r_args => e_prim  p r_args) (fun o x args r_o r_args => e_mth G C r_o x r_args) (fun elt x it fv r_elt r_it => e_comp C n r_elt x r_it fv) (fun elt x it cond fv r_elt r_it r_cond => e_compIf C n r_elt x r_it r_cond fv) (fun k fv => e_lam  k fv) (l_nil ) (fun e es r_e r_es => l_cons  r_e r_es) (fun e r_e => t_val  r_e) (fun a r_a => t_not  r_a) (fun o ts r_ts => t_bop  o r_ts) (fun t a b r_t r_a r_b => t_ife  r_t r_a r_b) (fun op a b r_a r_b => t_cmp  op r_a r_b) (a_nil ) (fun e es r_e r_es => a_cons  r_e r_es) e
end

noncomputable def stT (t : Tg) (v : V) (fr : Fr) (h : MH) : Option (Fr × MH) := match t with
  | .loc x => some (⟨put fr.loc x v, fr.cel⟩, h)
  | .cel x => (lk fr.cel x).bind fun i => onCel h[i]? (some (fr, h.set i (.cell (some v))))
noncomputable def stTs : List Tg → List V → Fr → MH → Option (Fr × MH)
  | [], vs, fr, h => nilL vs (some (fr, h))
  | t :: ts, vs, fr, h => match vs with
    | [] => none
    | v :: vs => (stT t v fr h).bind fun q => stTs ts vs q.1 q.2
noncomputable def stAll (v : V) : List Tg → Fr → MH → Option (Fr × MH)
  | [], fr, h => some (fr, h)
  | t :: ts, fr, h => (stT t v fr h).bind fun q => stAll v ts q.1 q.2
noncomputable def ldT (t : Tg) (fr : Fr) (h : MH) : Option V := match t with
  | .loc x => lk fr.loc x
  | .cel x => (lk fr.cel x).bind fun i => celV h[i]?

noncomputable abbrev Out := Option (Fl × Fr × MH)
noncomputable def loopF (go : Fr → MH → Out) (q : Fl × Fr × MH) : Out := match q.1 with
  | .nxt => go q.2.1 q.2.2
  | .cnt => go q.2.1 q.2.2
  | .brk => some (.nxt, q.2.1, q.2.2)
  | .ret w => some (.ret w, q.2.1, q.2.2)
noncomputable def forL (nx : It → MH → Option (Option (V × It) × MH)) (body : V → Fr → MH → Out) : Nat → It → Fr → MH → Out
  | 0, _, _, _ => none
  | n + 1, it, fr, h => (nx it h).bind fun p => onSm p.1 (some (.nxt, fr, p.2)) fun x => (body x.1 fr p.2).bind fun q => loopF (forL nx body n x.2) q
noncomputable def whlL (test : Fr → MH → Option (Bool × MH)) (body : Fr → MH → Out) : Nat → Fr → MH → Out
  | 0, _, _ => none
  | n + 1, fr, h => (test fr h).bind fun p => bif p.1 then (body fr p.2).bind fun q => loopF (whlL test body n) q else some (.nxt, fr, p.2)

noncomputable abbrev FS := Fr → MH → Out
noncomputable def thenF (ss : FS) (q : Fl × Fr × MH) : Out := match q.1 with
  | .nxt => ss q.2.1 q.2.2
  | .cnt => some (.cnt, q.2.1, q.2.2)
  | .brk => some (.brk, q.2.1, q.2.2)
  | .ret w => some (.ret w, q.2.1, q.2.2)
section
variable (G : Gl) (C : Call) (n : Nat)
noncomputable def s_asg (t : Tg) (e : E) : FS := fun fr h => (fE G C n e fr h).bind fun p => (stT t p.1 fr p.2).map fun q => (.nxt, q.1, q.2)
noncomputable def s_asgT (ts : List Tg) (e : E) : FS := fun fr h => (fE G C n e fr h).bind fun p => onTup p.1 fun vs => (stTs ts vs fr p.2).map fun q => (.nxt, q.1, q.2)
noncomputable def s_asgC (ts : List Tg) (e : E) : FS := fun fr h => (fE G C n e fr h).bind fun p => (stAll p.1 ts fr p.2).map fun q => (.nxt, q.1, q.2)
noncomputable def s_setA (o : E) (x : Nat) (e : E) : FS := fun fr h => (fE G C n e fr h).bind fun p => (fE G C n o fr p.2).bind fun q => (setAV G q.1 x p.1 q.2).map fun h3 => (.nxt, fr, h3)
noncomputable def s_setI (o i e : E) : FS := fun fr h => (fE G C n e fr h).bind fun p => (fE G C n o fr p.2).bind fun q => (fE G C n i fr q.2).bind fun r => (setIV q.1 r.1 p.1 r.2).map fun h3 => (.nxt, fr, h3)
noncomputable def s_aug (t : Tg) (op : Operator) (e : E) : FS := fun fr h => (ldT t fr h).bind fun old => (fE G C n e fr h).bind fun p => (augV op old p.1 p.2).bind fun q => (stT t q.1 fr q.2).map fun r => (.nxt, r.1, r.2)
noncomputable def s_augA (o : E) (x : Nat) (op : Operator) (e : E) : FS := fun fr h => (fE G C n o fr h).bind fun p => (attV G p.1 x p.2).bind fun old => (fE G C n e fr p.2).bind fun q => (augV op old q.1 q.2).bind fun r => (setAV G p.1 x r.1 r.2).map fun h4 => (.nxt, fr, h4)
noncomputable def s_ex (e : E) : FS := fun fr h => (fE G C n e fr h).map fun p => (.nxt, fr, p.2)
noncomputable def s_ife (t : T) (a b : FS) : FS := fun fr h => (fT G C n t fr h).bind fun p => bif p.1 then a fr p.2 else b fr p.2
noncomputable def s_whl (t : T) (b : FS) : FS := fun fr h => whlL (fT G C n t) b n fr h
noncomputable def s_forr (t : Tg) (it : E) (b : FS) : FS := fun fr h => (fE G C n it fr h).bind fun p => (iterOf p.1 p.2).bind fun j => forL (nextI C) (fun v fr h => (stT t v fr h).bind fun q => b q.1 q.2) n j fr p.2
noncomputable def s_ret (e : E) : FS := fun fr h => (fE G C n e fr h).map fun p => (.ret p.1, fr, p.2)
noncomputable def s_brk : FS := fun fr h => some (.brk, fr, h)
noncomputable def s_cnt : FS := fun fr h => some (.cnt, fr, h)
noncomputable def s_fdef (t : Tg) (k : Nat) (fv : List Nat) : FS := fun fr h => (fv.mapM (lk fr.cel)).bind fun cs => (stT t (.clo k cs) fr h).map fun q => (.nxt, q.1, q.2)
noncomputable def s_bad : FS := fun _ _ => none
noncomputable def ss_nil : FS := fun fr h => some (.nxt, fr, h)
noncomputable def ss_cons (s ss : FS) : FS := fun fr h => (s fr h).bind fun p => thenF ss p
noncomputable def fS (s : St) : FS := St.rec (motive_1 := fun _ => FS) (motive_2 := fun _ => FS) (fun t e => s_asg G C n t e) (fun ts e => s_asgT G C n ts e) (fun ts e => s_asgC G C n ts e) (fun o x e => s_setA G C n o x e) (fun o i e => s_setI G C n o i e) (fun t op e => s_aug G C n t op e) (fun o x op e => s_augA G C n o x op e) (fun e => s_ex G C n e) (fun t a b r_a r_b => s_ife G C n t r_a r_b) (fun t b r_b => s_whl G C n t r_b) (fun t it b r_b => s_forr G C n t it r_b) (fun e => s_ret G C n e) (s_brk ) (s_cnt ) (fun t k fv => s_fdef  t k fv) (s_bad ) (ss_nil ) (fun s ss r_s r_ss => ss_cons  r_s r_ss) s
noncomputable def fSs (s : Ss) : FS := Ss.rec (motive_1 := fun _ => FS) (motive_2 := fun _ => FS) (fun t e => s_asg G C n t e) (fun ts e => s_asgT G C n ts e) (fun ts e => s_asgC G C n ts e) (fun o x e => s_setA G C n o x e) (fun o i e => s_setI G C n o i e) (fun t op e => s_aug G C n t op e) (fun o x op e => s_augA G C n o x op e) (fun e => s_ex G C n e) (fun t a b r_a r_b => s_ife G C n t r_a r_b) (fun t b r_b => s_whl G C n t r_b) (fun t it b r_b => s_forr G C n t it r_b) (fun e => s_ret G C n e) (s_brk ) (s_cnt ) (fun t k fv => s_fdef  t k fv) (s_bad ) (ss_nil ) (fun s ss r_s r_ss => ss_cons  r_s r_ss) s
end

section
variable {G : Gl} {C : Call} {n : Nat} {fr fr' : Fr} {h h' : MH} {v : V} {r : V × MH} {rb : Bool × MH} {ro : Fl × Fr × MH} {fl : Fl} {a b o i e0 f : E} {es : Es} {x k : Nat} {op : Operator} {cop : CmpOp} {tg : Tg} {t : T} {fv : List Nat} {Q : Prop} {P : V → MH → Prop} {PB : Bool → MH → Prop} {PO : Fl → Fr → MH → Prop}
@[elab_as_elim] theorem pair_e {w : V} {h0 : MH} (e : some (w, h0) = some (v, h')) (k : P w h0) : P v h' := some_e (P := fun r => P r.1 r.2) e k
@[elab_as_elim] theorem ifp_e {c : Prop} [d : Decidable c] {w : V} {h0 : MH} (e : (if c then some (w, h0) else none) = some (v, h')) (k : c → P w h0) : P v h' := ifs_e (P := fun r => P r.1 r.2) e k
@[elab_as_elim] theorem i_loc (e : fE G C n (.loc x) fr h = some (v, h')) (k : ∀ w, lk fr.loc x = some w → P w h) : P v h' := map_e (P := fun r => P r.1 r.2) e k
@[elab_as_elim] theorem i_cel (e : fE G C n (.cel x) fr h = some (v, h')) (k : ∀ w i, lk fr.cel x = some i → h[i]? = some (.cell (some w)) → P w h) : P v h' :=
  map_e (P := fun r => P r.1 r.2) e fun w e => bnd_e e fun i e1 e2 => k w i e1 (celV_some e2)
@[elab_as_elim] theorem i_glb (e : fE G C n (.glb x) fr h = some (v, h')) (k : ∀ w, G.g x = some w → P w h) : P v h' := map_e (P := fun r => P r.1 r.2) e k
theorem i_bin (e : fE G C n (.bin op a b) fr h = some r) (k : ∀ va h1 vb h2, fE G C n a fr h = some (va, h1) → fE G C n b fr h1 = some (vb, h2) → binV op va vb h2 = some r → Q) : Q :=
  bnd_e e fun p e1 e => bnd_e e fun q e2 e => k p.1 p.2 q.1 q.2 e1 e2 e
@[elab_as_elim] theorem i_neg (e : fE G C n (.neg a) fr h = some (v, h')) (k : ∀ i h1, fE G C n a fr h = some (.int i, h1) → P (.int (-i)) h1) : P v h' :=
  bnd_e e fun p e1 e => by
    obtain ⟨w, h1⟩ := p
    obtain ⟨i, e2, e⟩ := onI_some e
    cases e2
    exact pair_e e (k i h1 e1)
@[elab_as_elim] theorem i_inv (e : fE G C n (.inv a) fr h = some (v, h')) (k : ∀ i h1, fE G C n a fr h = some (.int i, h1) → P (.int (Builtin.bitNot i)) h1) : P v h' :=
  bnd_e e fun p e1 e => by
    obtain ⟨w, h1⟩ := p
    obtain ⟨i, e2, e⟩ := onI_some e
    cases e2
    exact pair_e e (k i h1 e1)
@[elab_as_elim] theorem i_cmp (e : fE G C n (.cmp cop a b) fr h = some (v, h')) (k : ∀ va h1 vb h2 q, fE G C n a fr h = some (va, h1) → fE G C n b fr h1 = some (vb, h2) → cmpV cop va vb h2 = some q → P (.bool q) h2) : P v h' :=
  bnd_e e fun p e1 e => bnd_e e fun q e2 e => map_e (P := fun r => P r.1 r.2) e fun c e3 => k p.1 p.2 q.1 q.2 c e1 e2 e3
@[elab_as_elim] theorem i_not (e : fE G C n (.not a) fr h = some (v, h')) (k : ∀ va h1 q, fE G C n a fr h = some (va, h1) → trueV va h1 = some q → P (.bool (!q)) h1) : P v h' :=
  bnd_e e fun p e1 e => map_e (P := fun r => P r.1 r.2) e fun c e3 => k p.1 p.2 c e1 e3
theorem i_bop {bo : BoolOp} (e : fE G C n (.bop bo a es) fr h = some r) (k : ∀ va h1, fE G C n a fr h = some (va, h1) → (fL G C n es).2 bo va fr h1 = some r → Q) : Q :=
  bnd_e e fun p e1 e => k p.1 p.2 e1 e
theorem i_ife (e : fE G C n (.ife t a b) fr h = some r) (k : ∀ h1, fT G C n t fr h = some (true, h1) → fE G C n a fr h1 = some r → Q) (k2 : ∀ h1, fT G C n t fr h = some (false, h1) → fE G C n b fr h1 = some r → Q) : Q :=
  bnd_e e fun p e1 e => bif_e e (fun g e => k p.2 (pr_e e1 g) e) fun g e => k2 p.2 (pr_e e1 g) e
@[elab_as_elim] theorem i_lst (e : fE G C n (.lst es) fr h = some (v, h')) (k : ∀ vs h1, (fL G C n es).1 fr h = some (vs, h1) → vs.length ≤ 16777216 → P (.ref h1.length) (h1 ++ [.list vs])) : P v h' :=
  bnd_e e fun p e1 e => ifs_e (P := fun r => P r.1 r.2) e fun c => k p.1 p.2 e1 c
@[elab_as_elim] theorem i_tup (e : fE G C n (.tup es) fr h = some (v, h')) (k : ∀ vs h1, (fL G C n es).1 fr h = some (vs, h1) → vs.length ≤ 16777216 → P (.tup vs) h1) : P v h' :=
  bnd_e e fun p e1 e => ifs_e (P := fun r => P r.1 r.2) e fun c => k p.1 p.2 e1 c
@[elab_as_elim] theorem i_idx (e : fE G C n (.idx a b) fr h = some (v, h')) (k : ∀ va h1 vb h2 w, fE G C n a fr h = some (va, h1) → fE G C n b fr h1 = some (vb, h2) → idxV va vb h2 = some w → P w h2) : P v h' :=
  bnd_e e fun p e1 e => bnd_e e fun q e2 e => map_e (P := fun r => P r.1 r.2) e fun c e3 => k p.1 p.2 q.1 q.2 c e1 e2 e3
theorem i_slc (e : fE G C n (.slc o a b) fr h = some r) (k : ∀ vo h1 va h2 vb h3, fE G C n o fr h = some (vo, h1) → fE G C n a fr h1 = some (va, h2) → fE G C n b fr h2 = some (vb, h3) → slcV vo va vb h3 = some r → Q) : Q :=
  bnd_e e fun p e1 e => bnd_e e fun q e2 e => bnd_e e fun s e3 e => k p.1 p.2 q.1 q.2 s.1 s.2 e1 e2 e3 e
@[elab_as_elim] theorem i_att (e : fE G C n (.att o x) fr h = some (v, h')) (k : ∀ vo h1 w, fE G C n o fr h = some (vo, h1) → attV G vo x h1 = some w → P w h1) : P v h' :=
  bnd_e e fun p e1 e => map_e (P := fun r => P r.1 r.2) e fun c e3 => k p.1 p.2 c e1 e3
theorem i_call (e : fE G C n (.call f es) fr h = some r) (k : ∀ vf h1 vs h2, fE G C n f fr h = some (vf, h1) → (fL G C n es).1 fr h1 = some (vs, h2) → C vf vs h2 = some r → Q) : Q :=
  bnd_e e fun p e1 e => bnd_e e fun q e2 e => k p.1 p.2 q.1 q.2 e1 e2 e
theorem i_prim {pr : Prim} (e : fE G C n (.prim pr es) fr h = some r) (k : ∀ vs h1, (fL G C n es).1 fr h = some (vs, h1) → primV pr vs h1 = some r → Q) : Q :=
  bnd_e e fun p e1 e => k p.1 p.2 e1 e
theorem i_mth (e : fE G C n (.mth o x es) fr h = some r) (k : ∀ vo h1 vs h2, fE G C n o fr h = some (vo, h1) → (fL G C n es).1 fr h1 = some (vs, h2) → (∀ self, calleeV G vo x h1 = some (.bi self) → biM x self vs h2 = some r → Q) ∧ (∀ g pre, calleeV G vo x h1 = some (.val g pre) → C g (pre ++ vs) h2 = some r → Q)) : Q :=
  bnd_e e fun p e1 e => bnd_e e fun c e2 e => bnd_e e fun q e3 e => runM_e e2 e (k p.1 p.2 q.1 q.2 e1 e3).1 (k p.1 p.2 q.1 q.2 e1 e3).2
@[elab_as_elim] theorem i_comp (e : fE G C n (.comp a x i fv) fr h = some (v, h')) (k : ∀ vi h1 j h2, fE G C n i fr h = some (vi, h1) → iterOf vi h1 = some j → fv.all (fun y => (lk fr.cel y).isSome) = true → compL (nextI C) (fun _ h => some (true, h)) (fun v h => fE G C n a ⟨[(x, v)], fr.cel⟩ h) h1.length n j (h1 ++ [.list []]) = some h2 → P (.ref h1.length) h2) : P v h' :=
  bnd_e e fun p e1 e => bnd_e e fun j e2 e => map_e (P := fun r => P r.1 r.2) (iff_some e).2 fun h2 e3 => k p.1 p.2 j h2 e1 e2 (iff_some e).1 e3
@[elab_as_elim] theorem i_compIf (e : fE G C n (.compIf a x i t fv) fr h = some (v, h')) (k : ∀ vi h1 j h2, fE G C n i fr h = some (vi, h1) → iterOf vi h1 = some j → fv.all (fun y => (lk fr.cel y).isSome) = true → compL (nextI C) (fun v h => fT G C n t ⟨[(x, v)], fr.cel⟩ h) (fun v h => fE G C n a ⟨[(x, v)], fr.cel⟩ h) h1.length n j (h1 ++ [.list []]) = some h2 → P (.ref h1.length) h2) : P v h' :=
  bnd_e e fun p e1 e => bnd_e e fun j e2 e => map_e (P := fun r => P r.1 r.2) (iff_some e).2 fun h2 e3 => k p.1 p.2 j h2 e1 e2 (iff_some e).1 e3
@[elab_as_elim] theorem i_lam (e : fE G C n (.lam x fv) fr h = some (v, h')) (k : ∀ cs, fv.mapM (lk fr.cel) = some cs → P (.clo x cs) h) : P v h' := map_e (P := fun r => P r.1 r.2) e k
@[elab_as_elim] theorem i_lcons {vs : List V} {P : List V → MH → Prop} (e : (fL G C n (.cons a es)).1 fr h = some (vs, h')) (k : ∀ w h1 ws h2, fE G C n a fr h = some (w, h1) → (fL G C n es).1 fr h1 = some (ws, h2) → P (w :: ws) h2) : P vs h' :=
  bnd_e e fun p e1 e => map_e (P := fun r => P r.1 r.2) e fun q e2 => k p.1 p.2 q.1 q.2 e1 e2
@[elab_as_elim] theorem i_bcons {bo : BoolOp} {w : V} (e : (fL G C n (.cons a es)).2 bo w fr h = some (v, h')) (k : ∀ q, trueV w h = some q → goOn bo q = true → ∀ w' h1, fE G C n a fr h = some (w', h1) → (fL G C n es).2 bo w' fr h1 = some (v, h') → P v h') (k2 : ∀ q, trueV w h = some q → goOn bo q = false → P w h) : P v h' :=
  bnd_e e fun q e1 e => bif_e e (fun g e => bnd_e e fun p e2 e => k q e1 g p.1 p.2 e2 e) fun g e => pair_e e (k2 q e1 g)
@[elab_as_elim] theorem i_tval {b' : Bool} (e : fT G C n (.val a) fr h = some (b', h')) (k : ∀ va h1 q, fE G C n a fr h = some (va, h1) → trueV va h1 = some q → PB q h1) : PB b' h' :=
  bnd_e e fun p e1 e => map_e (P := fun r => PB r.1 r.2) e fun c e3 => k p.1 p.2 c e1 e3
@[elab_as_elim] theorem i_tnot {b' : Bool} (e : fT G C n (.not t) fr h = some (b', h')) (k : ∀ q h1, fT G C n t fr h = some (q, h1) → PB (!q) h1) : PB b' h' :=
  map_e (P := fun r => PB r.1 r.2) e fun p e1 => k p.1 p.2 e1
theorem i_tife {t1 t2 : T} (e : fT G C n (.ife t t1 t2) fr h = some rb) (k : ∀ h1, fT G C n t fr h = some (true, h1) → fT G C n t1 fr h1 = some rb → Q) (k2 : ∀ h1, fT G C n t fr h = some (false, h1) → fT G C n t2 fr h1 = some rb → Q) : Q :=
  bnd_e e fun p e1 e => bif_e e (fun g e => k p.2 (pr_e e1 g) e) fun g e => k2 p.2 (pr_e e1 g) e
@[elab_as_elim] theorem i_tcmp {b' : Bool} (e : fT G C n (.cmp cop a b) fr h = some (b', h')) (k : ∀ va h1 vb h2 q, fE G C n a fr h = some (va, h1) → fE G C n b fr h1 = some (vb, h2) → cmpV cop va vb h2 = some q → PB q h2) : PB b' h' :=
  bnd_e e fun p e1 e => bnd_e e fun q e2 e => map_e (P := fun r => PB r.1 r.2) e fun c e3 => k p.1 p.2 q.1 q.2 c e1 e2 e3
@[elab_as_elim] theorem i_acons {b' : Bool} {bo : BoolOp} {ts : Ts} (e : fA G C n (.cons t ts) bo fr h = some (b', h')) (k : ∀ q h1, fT G C n t fr h = some (q, h1) → goOn bo q = true → fA G C n ts bo fr h1 = some (b', h') → PB b' h') (k2 : ∀ q h1, fT G C n t fr h = some (q, h1) → goOn bo q = false → PB q h1) : PB b' h' :=
  bnd_e e fun p e1 e => bif_e e (fun g e => k p.1 p.2 e1 g e) fun g e => some_e (P := fun r => PB r.1 r.2) e (k2 p.1 p.2 e1 g)
@[elab_as_elim] theorem i_asg (e : fS G C n (.asg tg e0) fr h = some (fl, fr', h')) (k : ∀ w h1 fr2 h2, fE G C n e0 fr h = some (w, h1) → stT tg w fr h1 = some (fr2, h2) → PO .nxt fr2 h2) : PO fl fr' h' :=
  bnd_e e fun p e1 e => map_e (P := fun r => PO r.1 r.2.1 r.2.2) e fun q e2 => k p.1 p.2 q.1 q.2 e1 e2
@[elab_as_elim] theorem i_asgT {ts : List Tg} (e : fS G C n (.asgT ts e0) fr h = some (fl, fr', h')) (k : ∀ ws h1 fr2 h2, fE G C n e0 fr h = some (.tup ws, h1) → stTs ts ws fr h1 = some (fr2, h2) → PO .nxt fr2 h2) : PO fl fr' h' :=
  bnd_e e fun p e1 e => by
    obtain ⟨w, h1⟩ := p
    obtain ⟨ws, e2, e⟩ := onTup_some e
    cases e2
    exact map_e (P := fun r => PO r.1 r.2.1 r.2.2) e fun q e2 => k ws h1 q.1 q.2 e1 e2
@[elab_as_elim] theorem i_asgC {ts : List Tg} (e : fS G C n (.asgC ts e0) fr h = some (fl, fr', h')) (k : ∀ w h1 fr2 h2, fE G C n e0 fr h = some (w, h1) → stAll w ts fr h1 = some (fr2, h2) → PO .nxt fr2 h2) : PO fl fr' h' :=
  bnd_e e fun p e1 e => map_e (P := fun r => PO r.1 r.2.1 r.2.2) e fun q e2 => k p.1 p.2 q.1 q.2 e1 e2
@[elab_as_elim] theorem i_setA (e : fS G C n (.setA o x e0) fr h = some (fl, fr', h')) (k : ∀ w h1 vo h2 h3, fE G C n e0 fr h = some (w, h1) → fE G C n o fr h1 = some (vo, h2) → setAV G vo x w h2 = some h3 → PO .nxt fr h3) : PO fl fr' h' :=
  bnd_e e fun p e1 e => bnd_e e fun q e2 e => map_e (P := fun r => PO r.1 r.2.1 r.2.2) e fun h3 e3 => k p.1 p.2 q.1 q.2 h3 e1 e2 e3
@[elab_as_elim] theorem i_setI (e : fS G C n (.setI o i e0) fr h = some (fl, fr', h')) (k : ∀ w h1 vo h2 vi h3 h4, fE G C n e0 fr h = some (w, h1) → fE G C n o fr h1 = some (vo, h2) → fE G C n i fr h2 = some (vi, h3) → setIV vo vi w h3 = some h4 → PO .nxt fr h4) : PO fl fr' h' :=
  bnd_e e fun p e1 e => bnd_e e fun q e2 e => bnd_e e fun s e3 e => map_e (P := fun r => PO r.1 r.2.1 r.2.2) e fun h4 e4 => k p.1 p.2 q.1 q.2 s.1 s.2 h4 e1 e2 e3 e4
@[elab_as_elim] theorem i_aug (e : fS G C n (.aug tg op e0) fr h = some (fl, fr', h')) (k : ∀ old w h1 u h2 fr3 h3, ldT tg fr h = some old → fE G C n e0 fr h = some (w, h1) → augV op old w h1 = some (u, h2) → stT tg u fr h2 = some (fr3, h3) → PO .nxt fr3 h3) : PO fl fr' h' :=
  bnd_e e fun old e1 e => bnd_e e fun p e2 e => bnd_e e fun q e3 e => map_e (P := fun r => PO r.1 r.2.1 r.2.2) e fun s e4 => k old p.1 p.2 q.1 q.2 s.1 s.2 e1 e2 e3 e4
@[elab_as_elim] theorem i_augA (e : fS G C n (.augA o x op e0) fr h = some (fl, fr', h')) (k : ∀ vo h1 old w h2 u h3 h4, fE G C n o fr h = some (vo, h1) → attV G vo x h1 = some old → fE G C n e0 fr h1 = some (w, h2) → augV op old w h2 = some (u, h3) → setAV G vo x u h3 = some h4 → PO .nxt fr h4) : PO fl fr' h' :=
  bnd_e e fun p e1 e => bnd_e e fun old e2 e => bnd_e e fun q e3 e => bnd_e e fun s e4 e => map_e (P := fun r => PO r.1 r.2.1 r.2.2) e fun h4 e5 => k p.1 p.2 old q.1 q.2 s.1 s.2 h4 e1 e2 e3 e4 e5
@[elab_as_elim] theorem i_ex (e : fS G C n (.ex e0) fr h = some (fl, fr', h')) (k : ∀ w h1, fE G C n e0 fr h = some (w, h1) → PO .nxt fr h1) : PO fl fr' h' :=
  map_e (P := fun r => PO r.1 r.2.1 r.2.2) e fun p e1 => k p.1 p.2 e1
theorem i_sife {sa sb : Ss} (e : fS G C n (.ife t sa sb) fr h = some ro) (k : ∀ h1, fT G C n t fr h = some (true, h1) → fSs G C n sa fr h1 = some ro → Q) (k2 : ∀ h1, fT G C n t fr h = some (false, h1) → fSs G C n sb fr h1 = some ro → Q) : Q :=
  bnd_e e fun p e1 e => bif_e e (fun g e => k p.2 (pr_e e1 g) e) fun g e => k2 p.2 (pr_e e1 g) e
theorem i_forr {sb : Ss} (e : fS G C n (.forr tg e0 sb) fr h = some ro) (k : ∀ vi h1 j, fE G C n e0 fr h = some (vi, h1) → iterOf vi h1 = some j → forL (nextI C) (fun v fr h => (stT tg v fr h).bind fun q => fSs G C n sb q.1 q.2) n j fr h1 = some ro → Q) : Q :=
  bnd_e e fun p e1 e => bnd_e e fun j e2 e => k p.1 p.2 j e1 e2 e
@[elab_as_elim] theorem i_ret (e : fS G C n (.ret e0) fr h = some (fl, fr', h')) (k : ∀ w h1, fE G C n e0 fr h = some (w, h1) → PO (.ret w) fr h1) : PO fl fr' h' :=
  map_e (P := fun r => PO r.1 r.2.1 r.2.2) e fun p e1 => k p.1 p.2 e1
@[elab_as_elim] theorem i_fdef (e : fS G C n (.fdef tg x fv) fr h = some (fl, fr', h')) (k : ∀ cs fr2 h2, fv.mapM (lk fr.cel) = some cs → stT tg (.clo x cs) fr h = some (fr2, h2) → PO .nxt fr2 h2) : PO fl fr' h' :=
  bnd_e e fun cs e1 e => map_e (P := fun r => PO r.1 r.2.1 r.2.2) e fun q e2 => k cs q.1 q.2 e1 e2
theorem thenF_e {ss : FS} {q : Fl × Fr × MH} (e : thenF ss q = some (fl, fr', h')) (k1 : q.1 = .nxt → ss q.2.1 q.2.2 = some (fl, fr', h') → Q) (k2 : fl ≠ .nxt → q = (fl, fr', h') → Q) : Q := by
  obtain ⟨f, fr1, h1⟩ := q
  cases f with
  | nxt => exact k1 rfl e
  | cnt => cases e; exact k2 (fun q => nomatch q) rfl
  | brk => cases e; exact k2 (fun q => nomatch q) rfl
  | ret w => cases e; exact k2 (fun q => nomatch q) rfl
theorem i_scons {s0 : St} {ss : Ss} (e : fSs G C n (.cons s0 ss) fr h = some (fl, fr', h')) (k1 : ∀ fr1 h1, fS G C n s0 fr h = some (.nxt, fr1, h1) → fSs G C n ss fr1 h1 = some (fl, fr', h') → Q) (k2 : fl ≠ .nxt → fS G C n s0 fr h = some (fl, fr', h') → Q) : Q :=
  bnd_e e fun q e1 e => thenF_e e (fun g e => k1 q.2.1 q.2.2 (e1.trans (congrArg (fun f => some (f, q.2)) g)) e) fun g e => k2 g (e1.trans (congrArg some e))
@[elab_as_elim] theorem flow_e {f0 : Fl} {fr0 : Fr} {h0 : MH} (e : some (f0, fr0, h0) = some (fl, fr', h')) (k : PO f0 fr0 h0) : PO fl fr' h' := some_e (P := fun r => PO r.1 r.2.1 r.2.2) e k
end
end Rz
end Q1
section Q2
open PySem PySem.W PySem.Calls PyProof.Rows
namespace Rz
set_option linter.unusedVariables false

/-! what a mini value, object, frame, heap stands for -/
noncomputable def valC {α : Type} (d : α) (v : Value) (b : Bool → α := fun z => d) (i : Int → α := fun z => d) (s : Str → α := fun z => d) (t : String → α := fun z => d) (r : Addr → α := fun z => d) : α :=
  PySem.Value.casesOn (motive := fun _ => α) v d d d b (fun x y => i x) (fun x y => d) (fun x y => s x) (fun x y => d) t (fun x => d) r
noncomputable def datC {α : Type} (d : α) (x : Data) (p : α := d) (di : Array DictEntry → α := fun z => d) (ce : α := d) (fu : FuncData → α := fun z => d) (fi : Array Value → α := fun z => d) : α :=
  PySem.Data.casesOn (motive := fun _ => α) x p (fun v => d) (fun x y => d) (fun x y => di x) (fun x y z => d) (fun x y => d) (fun x => ce) fu (fun x => d) fi d
noncomputable def immC (c : Value) : Bool := valC false c (t := fun n => n == "tuple" || n == "range" || n == "function" || n == "method" || n == "code")
noncomputable def imm (o : Obj) : Bool := datC (immC o.cls) o.data (di := fun z => false) (ce := false)

structure Tab where
  P : Addr
  c : Addr
  k : Nat
  line : Nat
  col : Nat
  q : Str

structure Cx where
  prog : Program
  w : World
  h₀ : Heap
  tabs : List Tab
  NM : Nat → Str
  CV : Nat → Value
  CL : Nat → Addr
  os : OsState
  mdd : Nat → Arguments → FuncBody → Scope → Bool
  fv : Nat → List Nat
noncomputable abbrev Cx.TP (X : Cx) : List Addr := X.tabs.map (·.P)

noncomputable def CodeGood (h : Heap) (c : Addr) (q : Str) : Prop := ∃ oc vs t, h.get? c = some oc ∧ oc.cls = .type "code" ∧ oc.data = .fields vs ∧ vs[1]? = some (.str q t)

structure FnAt (X : Cx) (h : Heap) (a : Addr) (k : Nat) (cl : List (Str × Addr)) : Prop where
  ex : ∃ o fd, h.get? a = some o ∧ o.cls = .type "function" ∧ o.data = .func fd ∧ X.mdd k fd.params fd.body fd.scope = true ∧
    fd.globals = mainGlobals ∧ fd.builtins = builtinsNs ∧ fd.defaults = .none ∧ fd.kwdefaults = .none ∧ fd.closure = cl ∧
    ∃ c, fd.code = .ref c ∧ CodeGood h c fd.qualname

noncomputable def CloR (X : Cx) (ρ : List Addr) (fv cs : List Nat) (cl : List (Str × Addr)) : Prop :=
  fv.length = cs.length ∧ ∀ (j x c : Nat), fv[j]? = some x → cs[j]? = some c → ∃ a, ρ[c]? = some a ∧ cl.lookup (X.NM x) = some a

mutual
noncomputable def VR (X : Cx) (h : Heap) (ρ : List Addr) : V → Value → Prop
  | .none, v => v = .none
  | .bool b, v => v = .bool b
  | .int i, v => ∃ t, v = .int i t
  | .str s, v => ∃ t, v = .str ⟨s.toArray⟩ t
  | .tup vs, v => ∃ (a : Addr) (items : List Value), v = .ref a ∧ IsTup h a items.toArray ∧ VRs X h ρ vs items
  | .ref i, v => ∃ a, ρ[i]? = some a ∧ v = .ref a
  | .con k, v => v = X.CV k
  | .rng a b c, v => ∃ r t u w, v = .ref r ∧ IsRange h r a b c t u w
  | .clo k cs, v => ∃ a cl, v = .ref a ∧ FnAt X h a k cl ∧ CloR X ρ (X.fv k) cs cl
  | .bm k i, v => ∃ m a, v = .ref m ∧ h.get? m = some { cls := .type "method", data := .fields #[X.CV k, .ref a] } ∧ ρ[i]? = some a
noncomputable def VRs (X : Cx) (h : Heap) (ρ : List Addr) : List V → List Value → Prop
  | [], cs => cs = []
  | v :: vs, cs => ∃ c r, cs = c :: r ∧ VR X h ρ v c ∧ VRs X h ρ vs r
end

noncomputable def OVR (X : Cx) (h : Heap) (ρ : List Addr) : Option V → Option Value → Prop
  | none, c => c = none
  | some v, c => ∃ c', c = some c' ∧ VR X h ρ v c'

noncomputable def OR (X : Cx) (h : Heap) (ρ : List Addr) : AO → Addr → Prop
  | .list vs, a => ∃ (items : List Value) (n : Nat), h.get? a = some { cls := .type "list", data := .seq items.toArray n } ∧ VRs X h ρ vs items
  | .cell v, a => ∃ c, h.IsCell a c ∧ OVR X h ρ v c
  | .dict kv, a => ∃ (o : Obj) (es : Array DictEntry) (n : Nat), h.get? a = some o ∧ o.data = .dict es n ∧ StrKeys es ∧ es.size ≤ kv.length ∧
      (∀ x v, lk kv x = some v → ∃ c, nsFind es (X.NM x) = some c ∧ VR X h ρ v c) ∧ (∀ x, x < 400 → lk kv x = none → nsFind es (X.NM x) = none)
  | .inst c d, a => ∃ dx, ρ[d]? = some dx ∧ h.get? a = some { cls := .ref (X.CL c), dict := some dx, data := .plain }
  | .cit k i live, a => ∃ m t, h.get? a = some { cls := .type "callable_iterator", data := .fields (match live with | true => #[m, .str ⟨#[]⟩ t, .bool false] | false => #[.none, .none, .bool true]) } ∧ (live = true → VR X h ρ (.bm k i) m)
  | .rit l n, a => ∃ b, ρ[l]? = some b ∧ h.IsRevIter a b n

noncomputable def Mono (h h' : Heap) : Prop := ∀ b o, h.get? b = some o → imm o = true → h'.get? b = some o

theorem pre_get {ρ ρ' : List Addr} (p : ρ <+: ρ') {i : Nat} {a : Addr} (e : ρ[i]? = some a) : ρ'[i]? = some a := by
  obtain ⟨r, rfl⟩ := p
  have := List.getElem?_eq_some_iff.mp e
  rw [List.getElem?_append_left this.1]; exact e
theorem CodeGood.mono {h h' : Heap} {c q} (m : Mono h h') : CodeGood h c q → CodeGood h' c q := fun ⟨oc, vs, t, e, hc, r⟩ => ⟨oc, vs, t, m _ _ e (by unfold imm; rw [r.1, hc]; rfl), hc, r⟩
theorem FnAt.mono {X : Cx} {h h' : Heap} {a k cl} (m : Mono h h') (F : FnAt X h a k cl) : FnAt X h' a k cl := by
  obtain ⟨o, fd, e, hc, h1, h2, h3, h4, h5, h6, h7, c, e1, e2⟩ := F.ex
  exact ⟨o, fd, m _ _ e (by unfold imm; rw [h1, hc]; rfl), hc, h1, h2, h3, h4, h5, h6, h7, c, e1, e2.mono m⟩
theorem CloR.mono {X : Cx} {ρ ρ' : List Addr} (p : ρ <+: ρ') {fv cs cl} (c : CloR X ρ fv cs cl) : CloR X ρ' fv cs cl :=
  ⟨c.1, fun j x c' e1 e2 => let ⟨a, h1, h2⟩ := c.2 j x c' e1 e2; ⟨a, pre_get p h1, h2⟩⟩

mutual
theorem VR.mono {X : Cx} {h h' : Heap} {ρ ρ' : List Addr} (m : Mono h h') (p : ρ <+: ρ') : ∀ {v : V} {c : Value}, VR X h ρ v c → VR X h' ρ' v c
  | .none, _, e => e
  | .bool _, _, e => e
  | .int _, _, e => e
  | .str _, _, e => e
  | .tup vs, _, e => by
    obtain ⟨a, items, e1, ⟨o, e2, e3, n, e4⟩, e5⟩ := e
    exact ⟨a, items, e1, ⟨o, m _ _ e2 (by unfold imm; rw [e4, e3]; rfl), e3, n, e4⟩, VRs.mono m p e5⟩
  | .ref _, _, e => by obtain ⟨a, e1, e2⟩ := e; exact ⟨a, pre_get p e1, e2⟩
  | .con _, _, e => e
  | .rng _ _ _, _, e => by
    obtain ⟨r, t, u, w, e1, e2⟩ := e
    exact ⟨r, t, u, w, e1, m _ _ e2 rfl⟩
  | .clo k cs, _, e => by
    obtain ⟨a, cl, e1, e2, e3⟩ := e
    exact ⟨a, cl, e1, e2.mono m, e3.mono p⟩
  | .bm k i, _, e => by
    obtain ⟨q, a, e1, e2, e3⟩ := e
    exact ⟨q, a, e1, m _ _ e2 rfl, pre_get p e3⟩
theorem VRs.mono {X : Cx} {h h' : Heap} {ρ ρ' : List Addr} (m : Mono h h') (p : ρ <+: ρ') : ∀ {vs : List V} {cs : List Value}, VRs X h ρ vs cs → VRs X h' ρ' vs cs
  | [], _, e => e
  | v :: vs, _, e => by
    obtain ⟨c, r, e1, e2, e3⟩ := e
    exact ⟨c, r, e1, VR.mono m p e2, VRs.mono m p e3⟩
end

theorem OVR.mono {X : Cx} {h h' : Heap} {ρ ρ' : List Addr} (m : Mono h h') (p : ρ <+: ρ') : ∀ {v : Option V} {c : Option Value}, OVR X h ρ v c → OVR X h' ρ' v c
  | none, _, e => e
  | some _, _, ⟨c', e1, e2⟩ => ⟨c', e1, e2.mono m p⟩

theorem OR.mono {X : Cx} {h h' : Heap} {ρ ρ' : List Addr} (m : Mono h h') (p : ρ <+: ρ') {o : AO} {a : Addr} (k : ∀ x, h.get? a = some x → h'.get? a = some x) (r : OR X h ρ o a) : OR X h' ρ' o a := by
  cases o with
  | list =>
    obtain ⟨items, n, e1, e2⟩ := r
    exact ⟨items, n, k _ e1, e2.mono m p⟩
  | cell =>
    obtain ⟨c, ⟨o, e1, e2⟩, e4⟩ := r
    exact ⟨c, ⟨o, k _ e1, e2⟩, e4.mono m p⟩
  | dict =>
    obtain ⟨o, es, n, e1, e0, e2, e3, e4, e5⟩ := r
    exact ⟨o, es, n, k _ e1, e0, e2, e3, fun x v q => Exists.elim (e4 x v q) fun c z => ⟨c, z.1, z.2.mono m p⟩, e5⟩
  | inst =>
    obtain ⟨dx, e1, e2⟩ := r
    exact ⟨dx, pre_get p e1, k _ e2⟩
  | cit =>
    obtain ⟨q, t, e1, e2⟩ := r
    exact ⟨q, t, k _ e1, fun z => (e2 z).mono m p⟩
  | rit =>
    obtain ⟨b, e1, e2⟩ := r
    exact ⟨b, pre_get p e1, e2.at k⟩

/-- no object of the mini heap is of an unchanging kind -/
theorem imm_dict {o : Obj} {es n} (e : o.data = .dict es n) : imm o = false := by unfold imm; rw [e]; rfl
theorem imm_cell {o : Obj} {c} (e : o.data = .cell c) : imm o = false := by unfold imm; rw [e]; rfl
theorem OR.not_imm {X : Cx} {h : Heap} {ρ : List Addr} {o : AO} {a : Addr} (r : OR X h ρ o a) : ∃ x, h.get? a = some x ∧ imm x = false := by
  cases o with
  | list =>
    obtain ⟨_, _, e1, _⟩ := r
    exact ⟨_, e1, rfl⟩
  | cell =>
    obtain ⟨_, ⟨o, e1, e2⟩, _⟩ := r
    exact ⟨_, e1, imm_cell e2⟩
  | dict =>
    obtain ⟨o, _, _, e1, e2, _⟩ := r
    exact ⟨_, e1, imm_dict e2⟩
  | inst =>
    obtain ⟨_, _, e2⟩ := r
    exact ⟨_, e2, rfl⟩
  | cit =>
    obtain ⟨_, _, e1, _⟩ := r
    exact ⟨_, e1, rfl⟩
  | rit =>
    obtain ⟨_, _, o, e2, e3, e4⟩ := r
    exact ⟨o, e2, by unfold imm; rw [e4, e3]; rfl⟩

/-- a table of codes is no object of the mini heap -/
theorem OR.no_tab {X : Cx} {h : Heap} {ρ : List Addr} {o : AO} {a : Addr} {ps : Array Value} (hO : OR X h ρ o a) (h4 : h.get? a = some { cls := .none, data := .fields ps }) : False := by
  cases o with
  | list vs => obtain ⟨_, _, z, _⟩ := hO; rw [h4] at z; cases z
  | cell v => obtain ⟨_, ⟨o, z, z2⟩, _⟩ := hO; rw [h4] at z; cases z; cases z2
  | dict kv => obtain ⟨_, _, _, z, z2, _⟩ := hO; rw [h4] at z; cases z; cases z2
  | inst c d => obtain ⟨_, _, z⟩ := hO; rw [h4] at z; cases z
  | cit k j l => obtain ⟨_, _, z, _⟩ := hO; rw [h4] at z; cases z
  | rit l n => obtain ⟨_, _, o, z, z2, z3⟩ := hO; rw [h4] at z; cases z; cases z2

noncomputable def TabsOK (X : Cx) (h : Heap) : Prop := ∀ t ∈ X.tabs, ∃ ps, h.IsCode t.c t.P ps ∧ h.TableAt t.c t.P ps ∧
  (ps = #[] ∨ ∃ c', ps = #[rawInt t.line, rawInt t.col, .ref c'] ∧ CodeGood h c' t.q)

structure SOK (X : Cx) (ρ : List Addr) (H : MH) (s : Shared) : Prop where
  gens : s.gens = #[]
  os : s.os = X.os
  base : ∀ b o, X.h₀.get? b = some o → b ∉ X.TP → s.heap.get? b = some o
  tabs : TabsOK X s.heap
  len : ρ.length = H.length
  nod : ρ.Nodup
  hi : ∀ a ∈ ρ, X.h₀.get? a = none
  obj : ∀ (i : Nat) (o : AO) (a : Addr), H[i]? = some o → ρ[i]? = some a → OR X s.heap ρ o a

structure Ext (X : Cx) (ρ : List Addr) (h : Heap) (ρ' : List Addr) (h' : Heap) : Prop where
  pre : ρ <+: ρ'
  ch : ∀ b o, h.get? b = some o → b ∉ ρ → b ∉ X.TP → h'.get? b = some o
  new : ∀ a ∈ ρ', a ∉ ρ → h.get? a = none ∧ a ∉ X.TP

theorem Ext.refl {X : Cx} {ρ h} : Ext X ρ h ρ h := ⟨List.prefix_refl _, fun _ _ e _ _ => e, fun _ h1 h2 => absurd h1 h2⟩
theorem Ext.trans {X : Cx} {ρ h ρ' h' ρ'' h''} (a : Ext X ρ h ρ' h') (b : Ext X ρ' h' ρ'' h'') : Ext X ρ h ρ'' h'' := by
  have key : ∀ x o, h.get? x = some o → x ∉ ρ → x ∉ ρ' := fun x o e n m => by
    have := (a.new x m n).1; rw [this] at e; cases e
  refine ⟨a.pre.trans b.pre, fun x o e n t => b.ch x o (a.ch x o e n t) (key x o e n) t, fun x m n => ?_⟩
  by_cases hm : x ∈ ρ'
  · exact a.new x hm n
  · have z := b.new x m hm
    refine ⟨?_, z.2⟩
    cases q : h.get? x with
    | none => rfl
    | some o => rw [a.ch x o q n z.2] at z; cases z.1

noncomputable abbrev Keep (h h' : Heap) : Prop := ∀ b o, h.get? b = some o → h'.get? b = some o
noncomputable abbrev KeepBut (a : Addr) (h h' : Heap) : Prop := ∀ b o, b ≠ a → h.get? b = some o → h'.get? b = some o

theorem idx_of_mem {ρ : List Addr} {a : Addr} (m : a ∈ ρ) : ∃ i : Nat, ρ[i]? = some a := List.getElem?_of_mem m
theorem idx_inj {ρ : List Addr} (nd : ρ.Nodup) {i j : Nat} {a : Addr} (e1 : ρ[i]? = some a) (e2 : ρ[j]? = some a) : i = j := by
  obtain ⟨h1, e1⟩ := List.getElem?_eq_some_iff.mp e1
  obtain ⟨h2, e2⟩ := List.getElem?_eq_some_iff.mp e2
  have hp := List.pairwise_iff_getElem.mp nd
  rcases Nat.lt_trichotomy i j with q | q | q
  · exact absurd (e1.trans e2.symm) (hp i j h1 h2 q)
  · exact q
  · exact absurd (e2.trans e1.symm) (hp j i h2 h1 q)

namespace SOK
variable {X : Cx} {ρ : List Addr} {H : MH} {s : Shared}
theorem tok (S : SOK X ρ H s) (t : Nat) : SOK X ρ H { s with toks := t } := ⟨S.gens, S.os, S.base, S.tabs, S.len, S.nod, S.hi, S.obj⟩
theorem at' (S : SOK X ρ H s) {i : Nat} {o : AO} (e : H[i]? = some o) : ∃ a, ρ[i]? = some a ∧ OR X s.heap ρ o a := by
  have hl := (List.getElem?_eq_some_iff.mp e).1
  rw [← S.len] at hl
  exact ⟨ρ[i], List.getElem?_eq_getElem hl, S.obj i o _ e (List.getElem?_eq_getElem hl)⟩
theorem mem (S : SOK X ρ H s) {a : Addr} (m : a ∈ ρ) : ∃ x, s.heap.get? a = some x ∧ imm x = false := by
  obtain ⟨i, e⟩ := idx_of_mem m
  have hl := (List.getElem?_eq_some_iff.mp e).1
  rw [S.len] at hl
  exact (S.obj i _ a (List.getElem?_eq_getElem hl) e).not_imm
theorem tp (S : SOK X ρ H s) {a : Addr} (m : a ∈ X.TP) : ∃ x, s.heap.get? a = some x ∧ imm x = false := by
  obtain ⟨t, h1, rfl⟩ := List.mem_map.mp m
  obtain ⟨ps, _, h2, _⟩ := S.tabs t h1
  exact ⟨_, h2.2, rfl⟩
theorem fresh (S : SOK X ρ H s) {a : Addr} (e : s.heap.get? a = none) : a ∉ ρ ∧ a ∉ X.TP ∧ X.h₀.get? a = none := by
  refine ⟨fun m => ?_, fun m => ?_, ?_⟩
  · obtain ⟨x, h, _⟩ := S.mem m; rw [h] at e; cases e
  · obtain ⟨x, h, _⟩ := S.tp m; rw [h] at e; cases e
  · cases q : X.h₀.get? a with
    | none => rfl
    | some o =>
      by_cases hm : a ∈ X.TP
      · obtain ⟨x, h, _⟩ := S.tp hm; rw [h] at e; cases e
      · have := S.base a o q hm; rw [this] at e; cases e
theorem mono (S : SOK X ρ H s) {ρ' : List Addr} {h' : Heap} (E : Ext X ρ s.heap ρ' h') : Mono s.heap h' := fun b o e i => by
  refine E.ch b o e (fun m => ?_) fun m => ?_
  · obtain ⟨x, h, hi⟩ := S.mem m; rw [h] at e; cases e; rw [hi] at i; cases i
  · obtain ⟨x, h, hi⟩ := S.tp m; rw [h] at e; cases e; rw [hi] at i; cases i
theorem keep_tabs {h h' : Heap} (T : TabsOK X h) (k : Keep h h') : TabsOK X h' := fun t m =>
  let ⟨ps, h1, h2, h3⟩ := T t m
  ⟨ps, h1.keeps k, h2.keeps k, h3.imp id fun ⟨c', e, g⟩ => ⟨c', e, g.mono fun b o e _ => k b o e⟩⟩
/-- a heap that has only grown -/
theorem grow (S : SOK X ρ H s) {s' : Shared} (k : Keep s.heap s'.heap) (g : s'.gens = s.gens) (o : s'.os = s.os) : SOK X ρ H s' :=
  ⟨g.trans S.gens, o.trans S.os, fun b o e t => k _ _ (S.base b o e t), keep_tabs S.tabs k, S.len, S.nod, S.hi, fun i o a e1 e2 => (S.obj i o a e1 e2).mono (fun b o e _ => k b o e) (List.prefix_refl _) (k _)⟩
theorem ext_keep {h h' : Heap} (k : Keep h h') : Ext X ρ h ρ h' := ⟨List.prefix_refl _, fun b o e _ _ => k b o e, fun _ h1 h2 => absurd h1 h2⟩
/-- one more object of the mini heap -/
theorem alloc (S : SOK X ρ H s) {s' : Shared} {a : Addr} {o : AO} (k : Keep s.heap s'.heap) (hn : s.heap.get? a = none) (ho : OR X s'.heap (ρ ++ [a]) o a) (g : s'.gens = s.gens) (os : s'.os = s.os) :
    SOK X (ρ ++ [a]) (H ++ [o]) s' ∧ Ext X ρ s.heap (ρ ++ [a]) s'.heap := by
  obtain ⟨f1, f2, f3⟩ := S.fresh hn
  have p : ρ <+: ρ ++ [a] := List.prefix_append ..
  refine ⟨⟨g.trans S.gens, os.trans S.os, fun b o e t => k _ _ (S.base b o e t), keep_tabs S.tabs k, by simp [S.len], ?_, ?_, ?_⟩, p, fun b o e _ _ => k b o e, ?_⟩
  · rw [List.nodup_append]
    exact ⟨S.nod, by simp, fun x hx y hy e => f1 (by rw [List.mem_singleton] at hy; rw [← hy, ← e]; exact hx)⟩
  · intro x m
    rcases List.mem_append.mp m with m | m
    · exact S.hi x m
    · rw [List.mem_singleton] at m; rw [m]; exact f3
  · intro i o' a' e1 e2
    by_cases hi : i < H.length
    · rw [List.getElem?_append_left hi] at e1
      rw [List.getElem?_append_left (by rw [S.len]; exact hi)] at e2
      exact (S.obj i o' a' e1 e2).mono (fun b o e _ => k b o e) p (k _)
    · rw [List.getElem?_append_right (by (first | lia | omega))] at e1
      rw [List.getElem?_append_right (by rw [S.len]; (first | lia | omega))] at e2
      have hz : i - H.length = 0 := by
        have := (List.getElem?_eq_some_iff.mp e1).1
        simp at this; exact this
      rw [hz] at e1; rw [S.len, hz] at e2
      cases e1; cases e2
      exact ho
  · intro x m n
    rcases List.mem_append.mp m with m | m
    · exact absurd m n
    · rw [List.mem_singleton] at m; rw [m]; exact ⟨hn, f2⟩
theorem ne_at (S : SOK X ρ H s) {i j : Nat} {a b : Addr} (e1 : ρ[i]? = some a) (e2 : ρ[j]? = some b) (n : i ≠ j) : a ≠ b := fun q => n (idx_inj S.nod e1 (q ▸ e2))
theorem keepBut_tabs (S : SOK X ρ H s) {h' : Heap} {a : Addr} (k : KeepBut a s.heap h') (h1 : a ∉ X.TP) (h2 : ∀ t ∈ X.tabs, a ≠ t.c) (hi : ∃ x, s.heap.get? a = some x ∧ imm x = false) : TabsOK X h' := fun t m => by
  obtain ⟨ps, ⟨o, vs, f, tf, fl, tg, inF, tx, tt, op, q1, q2, q3, q4, q5, q6, q7, q8, q9⟩, ⟨⟨o', vs', r1, r2⟩, r3⟩, h3⟩ := S.tabs t m
  have nP : t.P ≠ a := fun e => h1 (e ▸ List.mem_map_of_mem m)
  have nc : t.c ≠ a := fun e => h2 t m e.symm
  refine ⟨ps, ⟨o, vs, f, tf, fl, tg, inF, tx, tt, op, k _ _ nc q1, q2, q3, q4, q5, q6, q7, k _ _ nP q8, q9⟩, ⟨⟨o', vs', k _ _ nc r1, r2⟩, k _ _ nP r3⟩, h3.imp id fun ⟨c', e, g⟩ => ⟨c', e, ?_⟩⟩
  obtain ⟨oc, vs, t', g1, g2, g3⟩ := g
  refine ⟨oc, vs, t', k _ _ (fun e => ?_) g1, g2, g3⟩
  obtain ⟨x, z1, z2⟩ := hi
  rw [← e, g1] at z1
  cases z1
  unfold imm at z2
  rw [g3.1, g2] at z2; cases z2
/-- a place that no mini object has (the frame's locals) has turned -/
theorem other (S : SOK X ρ H s) {s' : Shared} {L : Addr} (k : KeepBut L s.heap s'.heap) (h1 : L ∉ ρ) (h2 : L ∉ X.TP) (h3 : X.h₀.get? L = none) (hc : ∀ t ∈ X.tabs, L ≠ t.c) (hi : ∃ x, s.heap.get? L = some x ∧ imm x = false) (g : s'.gens = s.gens) (os : s'.os = s.os) :
    SOK X ρ H s' ∧ Mono s.heap s'.heap := by
  have m : Mono s.heap s'.heap := fun b o e i => by
    obtain ⟨x, z1, z2⟩ := hi
    exact k b o (fun q => by rw [q, z1] at e; cases e; rw [z2] at i; cases i) e
  refine ⟨⟨g.trans S.gens, os.trans S.os, fun b o e t => k _ _ (fun q => by rw [q, h3] at e; cases e) (S.base b o e t), S.keepBut_tabs k h2 hc hi, S.len, S.nod, S.hi, fun i o a e1 e2 => ?_⟩, m⟩
  exact (S.obj i o a e1 e2).mono m (List.prefix_refl _) fun x e => k _ _ (fun q => h1 (q ▸ List.mem_of_getElem? e2)) e
/-- one object of the mini heap has turned -/
theorem upd (S : SOK X ρ H s) {s' : Shared} {i : Nat} {a : Addr} {o' : AO} (e : ρ[i]? = some a) (k : KeepBut a s.heap s'.heap) (hc : ∀ t ∈ X.tabs, a ≠ t.c) (ho : Mono s.heap s'.heap → OR X s'.heap ρ o' a) (g : s'.gens = s.gens) (os : s'.os = s.os) :
    SOK X ρ (H.set i o') s' ∧ Ext X ρ s.heap ρ s'.heap := by
  have ma := List.mem_of_getElem? e
  have hi := S.mem ma
  have hT : a ∉ X.TP := fun q => by
    obtain ⟨t, h1, h2⟩ := List.mem_map.mp q
    obtain ⟨ps, _, h3, _⟩ := S.tabs t h1
    rw [h2] at h3
    have hl := (List.getElem?_eq_some_iff.mp e).1
    rw [S.len] at hl
    have hO := S.obj i _ a (List.getElem?_eq_getElem hl) e
    exact hO.no_tab h3.2
  have m : Mono s.heap s'.heap := fun b o e i => by
    obtain ⟨x, z1, z2⟩ := hi
    exact k b o (fun q => by rw [q, z1] at e; cases e; rw [z2] at i; cases i) e
  refine ⟨⟨g.trans S.gens, os.trans S.os, fun b o e' t => k _ _ (fun q => by rw [q, S.hi a ma] at e'; cases e') (S.base b o e' t), S.keepBut_tabs k hT hc hi, by simp [S.len], S.nod, S.hi, fun j o b e1 e2 => ?_⟩,
    List.prefix_refl _, fun b o e' n _ => k b o (fun q => n (q ▸ ma)) e', fun _ h1 h2 => absurd h1 h2⟩
  by_cases q : i = j
  · subst q
    rw [e] at e2; cases e2
    rw [List.getElem?_set_self (by rw [← S.len]; exact (List.getElem?_eq_some_iff.mp e).1)] at e1
    cases e1
    exact ho m
  · rw [List.getElem?_set_ne q] at e1
    exact (S.obj j o b e1 e2).mono m (List.prefix_refl _) fun x z => k _ _ (S.ne_at e2 e (Ne.symm q)) z
end SOK
end Rz
end Q2
section Q3
open PySem PySem.W PySem.Calls PyProof.Rows
namespace Rz
set_option linter.unusedVariables false

/-! a mini text is a written text -/
noncomputable def primName : Prim → Str
  | .len => "len" | .divmod => "divmod" | .rev => "reversed" | .range => "range" | .iter => "iter" | .sum => "sum"
  | .min => "min" | .max => "max" | .sorted => "sorted" | .tuple => "tuple" | .list => "list"
noncomputable def primVal : Prim → Value
  | .len => .builtin "len" | .divmod => .builtin "divmod" | .rev => .type "reversed" | .range => .type "range" | .iter => .builtin "iter" | .sum => .builtin "sum"
  | .min => .builtin "min" | .max => .builtin "max" | .sorted => .builtin "sorted" | .tuple => .type "tuple" | .list => .type "list"

noncomputable abbrev Ns := List (Str × NameKind)
noncomputable abbrev Md := Nat → Str → Pos → Arguments → FuncBody → Scope → Bool
noncomputable def isK (ns : Ns) (x : Str) (k : NameKind) : Bool := match ns.lookup x with
  | some j => decide (j = k)
  | none => false
noncomputable def isCF (ns : Ns) (x : Str) : Bool := isK ns x .cell || isK ns x .free
noncomputable def okN (x : Str) : Bool := !(x == ("__debug__" : Str)) && !(x == ("__classdict__" : Str))
theorem dt {c : Prop} [d : Decidable c] {f : c → Bool} {Q : Prop} (m : dite c f (fun _ => false) = true) (k : ∀ h, f h = true → Q) : Q := by
  cases d with
  | isTrue h => exact k h m
  | isFalse h => exact nomatch m
noncomputable def xCon (x : PySem.Expr) (f : Const → Nat → Pos → Bool) : Bool := dite (x.ctorIdx = 19) (fun h => PySem.Expr.Constant.elim x h f) (fun _ => false)
@[elab_as_elim] theorem xCon_e {P : PySem.Expr → Prop} {x : PySem.Expr} {f} (m : xCon x f = true) (k : ∀ a b c, f a b c = true → P (.Constant a b c)) : P x := dt m fun h m => PySem.Expr.Constant.elim (motive_1 := fun x => ∀ h, PySem.Expr.Constant.elim x h f = true → P x) x h (fun a b c _ m => k a b c m) h m
noncomputable def xNam (x : PySem.Expr) (f : Str → Pos → Bool) : Bool := dite (x.ctorIdx = 23) (fun h => PySem.Expr.Name.elim x h f) (fun _ => false)
@[elab_as_elim] theorem xNam_e {P : PySem.Expr → Prop} {x : PySem.Expr} {f} (m : xNam x f = true) (k : ∀ a b, f a b = true → P (.Name a b)) : P x := dt m fun h m => PySem.Expr.Name.elim (motive_1 := fun x => ∀ h, PySem.Expr.Name.elim x h f = true → P x) x h (fun a b _ m => k a b m) h m
noncomputable def xBin (x : PySem.Expr) (f : Expr → Operator → Expr → Pos → Bool) : Bool := dite (x.ctorIdx = 2) (fun h => PySem.Expr.BinOp.elim x h f) (fun _ => false)
@[elab_as_elim] theorem xBin_e {P : PySem.Expr → Prop} {x : PySem.Expr} {f} (m : xBin x f = true) (k : ∀ a b c d, f a b c d = true → P (.BinOp a b c d)) : P x := dt m fun h m => PySem.Expr.BinOp.elim (motive_1 := fun x => ∀ h, PySem.Expr.BinOp.elim x h f = true → P x) x h (fun a b c d _ m => k a b c d m) h m
noncomputable def xUn (x : PySem.Expr) (f : UnaryOp → Expr → Pos → Bool) : Bool := dite (x.ctorIdx = 3) (fun h => PySem.Expr.UnaryOp.elim x h f) (fun _ => false)
@[elab_as_elim] theorem xUn_e {P : PySem.Expr → Prop} {x : PySem.Expr} {f} (m : xUn x f = true) (k : ∀ a b c, f a b c = true → P (.UnaryOp a b c)) : P x := dt m fun h m => PySem.Expr.UnaryOp.elim (motive_1 := fun x => ∀ h, PySem.Expr.UnaryOp.elim x h f = true → P x) x h (fun a b c _ m => k a b c m) h m
noncomputable def xCmp (x : PySem.Expr) (f : Expr → List CmpOp → List Expr → Pos → Bool) : Bool := dite (x.ctorIdx = 15) (fun h => PySem.Expr.Compare.elim x h f) (fun _ => false)
@[elab_as_elim] theorem xCmp_e {P : PySem.Expr → Prop} {x : PySem.Expr} {f} (m : xCmp x f = true) (k : ∀ a b c d, f a b c d = true → P (.Compare a b c d)) : P x := dt m fun h m => PySem.Expr.Compare.elim (motive_1 := fun x => ∀ h, PySem.Expr.Compare.elim x h f = true → P x) x h (fun a b c d _ m => k a b c d m) h m
noncomputable def xBop (x : PySem.Expr) (f : BoolOp → List Expr → Pos → Bool) : Bool := dite (x.ctorIdx = 0) (fun h => PySem.Expr.BoolOp.elim x h f) (fun _ => false)
@[elab_as_elim] theorem xBop_e {P : PySem.Expr → Prop} {x : PySem.Expr} {f} (m : xBop x f = true) (k : ∀ a b c, f a b c = true → P (.BoolOp a b c)) : P x := dt m fun h m => PySem.Expr.BoolOp.elim (motive_1 := fun x => ∀ h, PySem.Expr.BoolOp.elim x h f = true → P x) x h (fun a b c _ m => k a b c m) h m
noncomputable def xIf (x : PySem.Expr) (f : Expr → Expr → Expr → Pos → Bool) : Bool := dite (x.ctorIdx = 5) (fun h => PySem.Expr.IfExp.elim x h f) (fun _ => false)
@[elab_as_elim] theorem xIf_e {P : PySem.Expr → Prop} {x : PySem.Expr} {f} (m : xIf x f = true) (k : ∀ a b c d, f a b c d = true → P (.IfExp a b c d)) : P x := dt m fun h m => PySem.Expr.IfExp.elim (motive_1 := fun x => ∀ h, PySem.Expr.IfExp.elim x h f = true → P x) x h (fun a b c d _ m => k a b c d m) h m
noncomputable def xLst (x : PySem.Expr) (f : List Expr → Pos → Bool) : Bool := dite (x.ctorIdx = 24) (fun h => PySem.Expr.List.elim x h f) (fun _ => false)
@[elab_as_elim] theorem xLst_e {P : PySem.Expr → Prop} {x : PySem.Expr} {f} (m : xLst x f = true) (k : ∀ a b, f a b = true → P (.List a b)) : P x := dt m fun h m => PySem.Expr.List.elim (motive_1 := fun x => ∀ h, PySem.Expr.List.elim x h f = true → P x) x h (fun a b _ m => k a b m) h m
noncomputable def xTup (x : PySem.Expr) (f : List Expr → Nat → Pos → Bool) : Bool := dite (x.ctorIdx = 25) (fun h => PySem.Expr.Tuple.elim x h f) (fun _ => false)
@[elab_as_elim] theorem xTup_e {P : PySem.Expr → Prop} {x : PySem.Expr} {f} (m : xTup x f = true) (k : ∀ a b c, f a b c = true → P (.Tuple a b c)) : P x := dt m fun h m => PySem.Expr.Tuple.elim (motive_1 := fun x => ∀ h, PySem.Expr.Tuple.elim x h f = true → P x) x h (fun a b c _ m => k a b c m) h m
noncomputable def xSub (x : PySem.Expr) (f : Expr → Expr → Pos → Bool) : Bool := dite (x.ctorIdx = 21) (fun h => PySem.Expr.Subscript.elim x h f) (fun _ => false)
@[elab_as_elim] theorem xSub_e {P : PySem.Expr → Prop} {x : PySem.Expr} {f} (m : xSub x f = true) (k : ∀ a b c, f a b c = true → P (.Subscript a b c)) : P x := dt m fun h m => PySem.Expr.Subscript.elim (motive_1 := fun x => ∀ h, PySem.Expr.Subscript.elim x h f = true → P x) x h (fun a b c _ m => k a b c m) h m
noncomputable def xSli (x : PySem.Expr) (f : Option Expr → Option Expr → Option Expr → Pos → Bool) : Bool := dite (x.ctorIdx = 26) (fun h => PySem.Expr.Slice.elim x h f) (fun _ => false)
@[elab_as_elim] theorem xSli_e {P : PySem.Expr → Prop} {x : PySem.Expr} {f} (m : xSli x f = true) (k : ∀ a b c d, f a b c d = true → P (.Slice a b c d)) : P x := dt m fun h m => PySem.Expr.Slice.elim (motive_1 := fun x => ∀ h, PySem.Expr.Slice.elim x h f = true → P x) x h (fun a b c d _ m => k a b c d m) h m
noncomputable def xAtt (x : PySem.Expr) (f : Expr → Str → Pos → Bool) : Bool := dite (x.ctorIdx = 20) (fun h => PySem.Expr.Attribute.elim x h f) (fun _ => false)
@[elab_as_elim] theorem xAtt_e {P : PySem.Expr → Prop} {x : PySem.Expr} {f} (m : xAtt x f = true) (k : ∀ a b c, f a b c = true → P (.Attribute a b c)) : P x := dt m fun h m => PySem.Expr.Attribute.elim (motive_1 := fun x => ∀ h, PySem.Expr.Attribute.elim x h f = true → P x) x h (fun a b c _ m => k a b c m) h m
noncomputable def xCal (x : PySem.Expr) (f : Expr → List Expr → List Keyword → Pos → Bool) : Bool := dite (x.ctorIdx = 16) (fun h => PySem.Expr.Call.elim x h f) (fun _ => false)
@[elab_as_elim] theorem xCal_e {P : PySem.Expr → Prop} {x : PySem.Expr} {f} (m : xCal x f = true) (k : ∀ a b c d, f a b c d = true → P (.Call a b c d)) : P x := dt m fun h m => PySem.Expr.Call.elim (motive_1 := fun x => ∀ h, PySem.Expr.Call.elim x h f = true → P x) x h (fun a b c d _ m => k a b c d m) h m
noncomputable def xLC (x : PySem.Expr) (f : Expr → List Comprehension → Scope → Pos → Bool) : Bool := dite (x.ctorIdx = 8) (fun h => PySem.Expr.ListComp.elim x h f) (fun _ => false)
@[elab_as_elim] theorem xLC_e {P : PySem.Expr → Prop} {x : PySem.Expr} {f} (m : xLC x f = true) (k : ∀ a b c d, f a b c d = true → P (.ListComp a b c d)) : P x := dt m fun h m => PySem.Expr.ListComp.elim (motive_1 := fun x => ∀ h, PySem.Expr.ListComp.elim x h f = true → P x) x h (fun a b c d _ m => k a b c d m) h m
noncomputable def xLam (x : PySem.Expr) (f : Arguments → Expr → Scope → Pos → Bool) : Bool := dite (x.ctorIdx = 4) (fun h => PySem.Expr.Lambda.elim x h f) (fun _ => false)
@[elab_as_elim] theorem xLam_e {P : PySem.Expr → Prop} {x : PySem.Expr} {f} (m : xLam x f = true) (k : ∀ a b c d, f a b c d = true → P (.Lambda a b c d)) : P x := dt m fun h m => PySem.Expr.Lambda.elim (motive_1 := fun x => ∀ h, PySem.Expr.Lambda.elim x h f = true → P x) x h (fun a b c d _ m => k a b c d m) h m
noncomputable def xAsg (x : PySem.Stmt) (f : List Expr → Expr → Pos → Bool) : Bool := dite (x.ctorIdx = 5) (fun h => PySem.Stmt.Assign.elim x h f) (fun _ => false)
@[elab_as_elim] theorem xAsg_e {P : PySem.Stmt → Prop} {x : PySem.Stmt} {f} (m : xAsg x f = true) (k : ∀ a b c, f a b c = true → P (.Assign a b c)) : P x := dt m fun h m => PySem.Stmt.Assign.elim (motive_2 := fun x => ∀ h, PySem.Stmt.Assign.elim x h f = true → P x) x h (fun a b c _ m => k a b c m) h m
noncomputable def xAug (x : PySem.Stmt) (f : Expr → Operator → Expr → Pos → Bool) : Bool := dite (x.ctorIdx = 7) (fun h => PySem.Stmt.AugAssign.elim x h f) (fun _ => false)
@[elab_as_elim] theorem xAug_e {P : PySem.Stmt → Prop} {x : PySem.Stmt} {f} (m : xAug x f = true) (k : ∀ a b c d, f a b c d = true → P (.AugAssign a b c d)) : P x := dt m fun h m => PySem.Stmt.AugAssign.elim (motive_2 := fun x => ∀ h, PySem.Stmt.AugAssign.elim x h f = true → P x) x h (fun a b c d _ m => k a b c d m) h m
noncomputable def xEx (x : PySem.Stmt) (f : Expr → Pos → Bool) : Bool := dite (x.ctorIdx = 24) (fun h => PySem.Stmt.Expr.elim x h f) (fun _ => false)
@[elab_as_elim] theorem xEx_e {P : PySem.Stmt → Prop} {x : PySem.Stmt} {f} (m : xEx x f = true) (k : ∀ a b, f a b = true → P (.Expr a b)) : P x := dt m fun h m => PySem.Stmt.Expr.elim (motive_2 := fun x => ∀ h, PySem.Stmt.Expr.elim x h f = true → P x) x h (fun a b _ m => k a b m) h m
noncomputable def xSIf (x : PySem.Stmt) (f : Expr → List Stmt → List Stmt → Pos → Bool) : Bool := dite (x.ctorIdx = 12) (fun h => PySem.Stmt.If.elim x h f) (fun _ => false)
@[elab_as_elim] theorem xSIf_e {P : PySem.Stmt → Prop} {x : PySem.Stmt} {f} (m : xSIf x f = true) (k : ∀ a b c d, f a b c d = true → P (.If a b c d)) : P x := dt m fun h m => PySem.Stmt.If.elim (motive_2 := fun x => ∀ h, PySem.Stmt.If.elim x h f = true → P x) x h (fun a b c d _ m => k a b c d m) h m
noncomputable def xWhl (x : PySem.Stmt) (f : Expr → List Stmt → List Stmt → Pos → Bool) : Bool := dite (x.ctorIdx = 11) (fun h => PySem.Stmt.While.elim x h f) (fun _ => false)
@[elab_as_elim] theorem xWhl_e {P : PySem.Stmt → Prop} {x : PySem.Stmt} {f} (m : xWhl x f = true) (k : ∀ a b c d, f a b c d = true → P (.While a b c d)) : P x := dt m fun h m => PySem.Stmt.While.elim (motive_2 := fun x => ∀ h, PySem.Stmt.While.elim x h f = true → P x) x h (fun a b c d _ m => k a b c d m) h m
noncomputable def xFor (x : PySem.Stmt) (f : Expr → Expr → List Stmt → List Stmt → Pos → Bool) : Bool := dite (x.ctorIdx = 9) (fun h => PySem.Stmt.For.elim x h f) (fun _ => false)
@[elab_as_elim] theorem xFor_e {P : PySem.Stmt → Prop} {x : PySem.Stmt} {f} (m : xFor x f = true) (k : ∀ a b c d e, f a b c d e = true → P (.For a b c d e)) : P x := dt m fun h m => PySem.Stmt.For.elim (motive_2 := fun x => ∀ h, PySem.Stmt.For.elim x h f = true → P x) x h (fun a b c d e _ m => k a b c d e m) h m
noncomputable def xRet (x : PySem.Stmt) (f : Option Expr → Pos → Bool) : Bool := dite (x.ctorIdx = 3) (fun h => PySem.Stmt.Return.elim x h f) (fun _ => false)
@[elab_as_elim] theorem xRet_e {P : PySem.Stmt → Prop} {x : PySem.Stmt} {f} (m : xRet x f = true) (k : ∀ a b, f a b = true → P (.Return a b)) : P x := dt m fun h m => PySem.Stmt.Return.elim (motive_2 := fun x => ∀ h, PySem.Stmt.Return.elim x h f = true → P x) x h (fun a b _ m => k a b m) h m
noncomputable def xBrk (x : PySem.Stmt) (f : Pos → Bool) : Bool := dite (x.ctorIdx = 26) (fun h => PySem.Stmt.Break.elim x h f) (fun _ => false)
@[elab_as_elim] theorem xBrk_e {P : PySem.Stmt → Prop} {x : PySem.Stmt} {f} (m : xBrk x f = true) (k : ∀ a, f a = true → P (.Break a)) : P x := dt m fun h m => PySem.Stmt.Break.elim (motive_2 := fun x => ∀ h, PySem.Stmt.Break.elim x h f = true → P x) x h (fun a _ m => k a m) h m
noncomputable def xCnt (x : PySem.Stmt) (f : Pos → Bool) : Bool := dite (x.ctorIdx = 27) (fun h => PySem.Stmt.Continue.elim x h f) (fun _ => false)
@[elab_as_elim] theorem xCnt_e {P : PySem.Stmt → Prop} {x : PySem.Stmt} {f} (m : xCnt x f = true) (k : ∀ a, f a = true → P (.Continue a)) : P x := dt m fun h m => PySem.Stmt.Continue.elim (motive_2 := fun x => ∀ h, PySem.Stmt.Continue.elim x h f = true → P x) x h (fun a _ m => k a m) h m
noncomputable def xFd (x : PySem.Stmt) (f : Str → Arguments → List Stmt → List Expr → Option Expr → List TypeParam → Scope → Option Scope → Str → Pos → Bool) : Bool := dite (x.ctorIdx = 0) (fun h => PySem.Stmt.FunctionDef.elim x h f) (fun _ => false)
@[elab_as_elim] theorem xFd_e {P : PySem.Stmt → Prop} {x : PySem.Stmt} {f} (m : xFd x f = true) (k : ∀ a b c d e g h i j l, f a b c d e g h i j l = true → P (.FunctionDef a b c d e g h i j l)) : P x := dt m fun h m => PySem.Stmt.FunctionDef.elim (motive_2 := fun x => ∀ h, PySem.Stmt.FunctionDef.elim x h f = true → P x) x h (fun a b c d e g h i j l _ m => k a b c d e g h i j l m) h m
noncomputable def b0 {α : Type} (l : List α) (c : Bool) : Bool := match l with
  | [] => c
  | _ :: _ => false
noncomputable def bc {α : Type} (l : List α) (f : α → List α → Bool) : Bool := match l with
  | [] => false
  | a :: r => f a r
noncomputable def b1 {α : Type} (l : List α) (f : α → Bool) : Bool := bc l fun a r => b0 r (f a)
noncomputable def bN {α : Type} (o : Option α) (c : Bool) : Bool := match o with
  | none => c
  | some _ => false
@[elab_as_elim] theorem b0_e {α : Type} {P : List α → Prop} {l : List α} {c : Bool} (m : b0 l c = true) (k : c = true → P []) : P l := by
  cases l with
  | nil => exact k m
  | cons => exact nomatch m
@[elab_as_elim] theorem bc_e {α : Type} {P : List α → Prop} {l : List α} {f : α → List α → Bool} (m : bc l f = true) (k : ∀ a r, f a r = true → P (a :: r)) : P l := by
  cases l with
  | nil => exact nomatch m
  | cons a r => exact k a r m
@[elab_as_elim] theorem b1_e {α : Type} {P : List α → Prop} {l : List α} {f : α → Bool} (m : b1 l f = true) (k : ∀ a, f a = true → P [a]) : P l :=
  bc_e m fun a r m => b0_e (P := fun r => P (a :: r)) m fun m => k a m
@[elab_as_elim] theorem bN_e {α : Type} {P : Option α → Prop} {o : Option α} {c : Bool} (m : bN o c = true) (k : c = true → P none) : P o := by
  cases o with
  | none => exact k m
  | some => exact nomatch m
noncomputable def isSlice (x : Expr) : Bool := Nat.beq x.ctorIdx 26
noncomputable def isSet (x : Expr) : Bool := Nat.beq x.ctorIdx 7
noncomputable def isStar (x : Expr) : Bool := Nat.beq x.ctorIdx 22
noncomputable def isCall (x : Expr) : Bool := Nat.beq x.ctorIdx 16
noncomputable def isAttr (x : Expr) : Bool := Nat.beq x.ctorIdx 20
noncomputable def isSuper (x : Expr) : Bool := xCal x fun f as ks _ => xNam f fun _ _ => b0 as (b0 ks true)
noncomputable def isTest (x : Expr) : Bool := xUn x (fun o _ _ => decide (o = .Not)) || Nat.beq x.ctorIdx 0 || Nat.beq x.ctorIdx 5 || Nat.beq x.ctorIdx 15
/-- the names of a comprehension's block as it is run -/
noncomputable def ownNs (ns sc : Ns) : Ns := sc.map fun (n, k) => if k == .free && ns.lookup n == some .cell then (n, .cell) else (n, k)
noncomputable def kC {α : Type} (k : NameKind) (f c o : α) : α := NameKind.casesOn (motive := fun _ => α) k o c f o o
noncomputable def freesAre (NM : Nat → Str) (ns : Ns) : Ns → List Nat → Bool
  | [], fv => b0 fv true
  | (n, k) :: r, fv => kC k (bc fv fun x fv => (NM x == n) && isCF ns n && freesAre NM ns r fv) false (freesAre NM ns r fv)
/-- the free names of a block, in order -/
noncomputable def freesIn (NM : Nat → Str) : Ns → List Nat → Bool
  | [], fv => b0 fv true
  | (n, k) :: r, fv => kC k (bc fv fun x fv => (NM x == n) && freesIn NM r fv) (freesIn NM r fv) (freesIn NM r fv)
noncomputable def compSc (NM : Nat → Str) (ns : Ns) (id : Str) (fv : List Nat) (sc : Scope) : Bool :=
  decide (sc.kind = .function) && freesAre NM ns sc.names fv && isK sc.names id .local && sc.names.all (fun p => p.2 != .local || p.1 == id || p.1 == (".0" : Str)) && okN id && id != (".0" : Str) && (sc.names.all fun p => p.2 != .local || decide (sc.names.lookup p.1 = some .local))

noncomputable def plainArgs (a : Arguments) : Bool := b0 a.posonlyargs (bN a.vararg (b0 a.kwonlyargs (b0 a.kw_defaults (bN a.kwarg (b0 a.defaults (a.args.all (·.annotation.isNone)))))))
theorem kC_f {α : Type} {k : NameKind} {f c o : α} (h : k ≠ .free) (h2 : c = o) : kC k f c o = o := by
  cases k <;> first | rfl | exact h2 | exact absurd rfl h
theorem plainArgs_t {a : Arguments} (m : plainArgs a = true) : ∃ as, a = ⟨[], as, none, [], [], none, []⟩ ∧ as.all (·.annotation.isNone) = true := by
  obtain ⟨a1, a2, a3, a4, a5, a6, a7⟩ := a
  refine b0_e (l := a1) m fun m => ?_
  refine bN_e (o := a3) m fun m => ?_
  refine b0_e (l := a4) m fun m => ?_
  refine b0_e (l := a5) m fun m => ?_
  refine bN_e (o := a6) m fun m => ?_
  refine b0_e (l := a7) m fun m => ?_
  exact ⟨a2, rfl, m⟩
section
variable (NM : Nat → Str) (md : Md)
noncomputable def cNon (c : Const) : Bool := dite (c.ctorIdx = 0) (fun h => PySem.Const.none.elim c h true) (fun _ => false)
@[elab_as_elim] theorem cNon_e {P : Const → Prop} {c : Const} (m : cNon c = true) (k : P .none) : P c := dt m fun h _ => PySem.Const.none.elim c h k
noncomputable def cBoo (c : Const) (f : Bool → Bool) : Bool := dite (c.ctorIdx = 1) (fun h => PySem.Const.bool.elim c h f) (fun _ => false)
@[elab_as_elim] theorem cBoo_e {P : Const → Prop} {c : Const} {f} (m : cBoo c f = true) (k : ∀ b, f b = true → P (.bool b)) : P c := dt m fun h m => PySem.Const.bool.elim (motive := fun c => ∀ h, PySem.Const.bool.elim c h f = true → P c) c h (fun a _ m => k a m) h m
noncomputable def cInt (c : Const) (f : Int → Bool) : Bool := dite (c.ctorIdx = 2) (fun h => PySem.Const.int.elim c h f) (fun _ => false)
@[elab_as_elim] theorem cInt_e {P : Const → Prop} {c : Const} {f} (m : cInt c f = true) (k : ∀ b, f b = true → P (.int b)) : P c := dt m fun h m => PySem.Const.int.elim (motive := fun c => ∀ h, PySem.Const.int.elim c h f = true → P c) c h (fun a _ m => k a m) h m
noncomputable def cStr (c : Const) (f : Str → Bool) : Bool := dite (c.ctorIdx = 5) (fun h => PySem.Const.str.elim c h f) (fun _ => false)
@[elab_as_elim] theorem cStr_e {P : Const → Prop} {c : Const} {f} (m : cStr c f = true) (k : ∀ b, f b = true → P (.str b)) : P c := dt m fun h m => PySem.Const.str.elim (motive := fun c => ∀ h, PySem.Const.str.elim c h f = true → P c) c h (fun a _ m => k a m) h m
noncomputable def mLit (v : V) (c : Const) : Bool := V.casesOn (motive_1 := fun _ => Bool) v (cNon c) (fun a => cBoo c fun b => a == b) (fun a => cInt c fun b => decide (a = b)) (fun s => cStr c fun x => decide (x.cps.toList = s)) (fun _ => false) (fun _ => false) (fun _ => false) (fun _ _ _ => false) (fun _ _ => false) (fun _ _ => false)
noncomputable def isNone (e : E) : Bool := dite (e.ctorIdx = 0) (fun h => E.lit.elim e h fun v => dite (v.ctorIdx = 0) (fun h => V.none.elim v h true) (fun _ => false)) (fun _ => false)
@[elab_as_elim] theorem isNone_e {P : E → Prop} {e : E} (m : isNone e = true) (k : P (.lit .none)) : P e := dt m fun h m => E.lit.elim (motive_1 := fun e => ∀ h, (E.lit.elim e h fun v => dite (v.ctorIdx = 0) (fun h => V.none.elim v h true) (fun _ => false)) = true → P e) e h (fun v _ m => dt m fun h _ => V.none.elim v h k) h m
mutual
noncomputable def mE (ns : Ns) : E → Expr → Bool
  | .lit v, xx => xCon xx fun c _ _ => mLit v c
  | .loc x, xx => xNam xx fun id _ => NM x == id && isK ns id .local && okN id
  | .cel x, xx => xNam xx fun id _ => NM x == id && isCF ns id && okN id
  | .glb x, xx => xNam xx fun id _ => NM x == id && isK ns id .globalImplicit && okN id
  | .bin op a b, xx => xBin xx fun l o r _ => decide (op = o) && mE ns a l && mE ns b r
  | .neg a, xx => xUn xx fun o x _ => decide (o = .USub) && mE ns a x
  | .inv a, xx => xUn xx fun o x _ => decide (o = .Invert) && mE ns a x
  | .not a, xx => xUn xx fun o x _ => decide (o = .Not) && mE ns a x
  | .cmp op a b, xx => xCmp xx fun l os rs _ => b1 os fun o => b1 rs fun r => decide (op = o) && !isSet r && mE ns a l && mE ns b r
  | .bop o e es, xx => xBop xx fun p ys _ => bc ys fun x xs => decide (o = p) && !xs.isEmpty && mE ns e x && mL ns es xs
  | .ife t a b, xx => xIf xx fun t' a' b' _ => mT ns t t' && mE ns a a' && mE ns b b'
  | .lst es, xx => xLst xx fun xs _ => mL ns es xs
  | .tup es, xx => xTup xx fun xs _ _ => mL ns es xs
  | .idx o i, xx => xSub xx fun o' i' _ => !isSlice i' && mE ns o o' && mE ns i i'
  | .slc o lo hi, xx => xSub xx fun o' i _ => xSli i fun l u st _ => bN st (mE ns o o' && onSm l (isNone lo) (fun x => mE ns lo x) && onSm u (isNone hi) (fun x => mE ns hi x))
  | .att o x, xx => xAtt xx fun o' n _ => NM x == n && !isSuper o' && mE ns o o'
  | .call f args, xx => xCal xx fun f' as ks _ => b0 ks (!isAttr f' && mE ns f f' && mL ns args as)
  | .prim p args, xx => xCal xx fun f' as ks _ => xNam f' fun id _ => b0 ks (primName p == id && isK ns id .globalImplicit && okN id && mL ns args as)
  | .mth o x args, xx => xCal xx fun f' as ks pos => xAtt f' fun o' n apos => b0 ks (NM x == n && !isSuper o' && decide (apos.endLine = pos.line) && decide (as.length < 20) && mE ns o o' && mL ns args as)
  | .comp elt x it fv, xx => xLC xx fun elt' gs sc _ => b1 gs fun g => xNam g.target fun id _ => b0 g.ifs (decide (g.is_async = 0) && NM x == id && compSc NM ns id fv sc && !isSet g.iter && mE ns it g.iter && mE (ownNs ns sc.names) elt elt')
  | .compIf elt x it cond fv, xx => xLC xx fun elt' gs sc _ => b1 gs fun g => xNam g.target fun id _ => b1 g.ifs fun cond' => decide (g.is_async = 0) && NM x == id && compSc NM ns id fv sc && !isSet g.iter && mE ns it g.iter && mT (ownNs ns sc.names) cond cond' && mE (ownNs ns sc.names) elt elt'
  | .lam k fv, xx => xLam xx fun args body sc pos => freesAre NM ns sc.names fv && plainArgs args && md k ("<lambda>" : Str) pos args (.expr body) sc
noncomputable def mT (ns : Ns) : T → Expr → Bool
  | .not t, xx => xUn xx fun o x _ => decide (o = .Not) && mT ns t x
  | .bop o ts, xx => xBop xx fun p xs _ => decide (o = p) && mA ns ts xs
  | .ife t a b, xx => xIf xx fun t' a' b' _ => mT ns t t' && mT ns a a' && mT ns b b'
  | .cmp op a b, xx => xCmp xx fun l os rs _ => b1 os fun o => b1 rs fun r => decide (op = o) && !isSet r && mE ns a l && mE ns b r
  | .val e, x => !isTest x && mE ns e x
noncomputable def mL (ns : Ns) : Es → List Expr → Bool
  | .nil, l => b0 l true
  | .cons e es, l => bc l fun x xs => !isStar x && mE ns e x && mL ns es xs
noncomputable def mA (ns : Ns) : Ts → List Expr → Bool
  | .nil, l => b0 l true
  | .cons e es, l => bc l fun x xs => mT ns e x && mA ns es xs
end
noncomputable def mTg (ns : Ns) : Tg → Expr → Bool
  | .loc x, y => xNam y fun id _ => NM x == id && isK ns id .local && okN id
  | .cel x, y => xNam y fun id _ => NM x == id && isK ns id .cell && okN id
noncomputable def mTgN (ns : Ns) : Tg → Str → Bool
  | .loc x, id => NM x == id && isK ns id .local && okN id
  | .cel x, id => NM x == id && isK ns id .cell && okN id
noncomputable def mTgs (ns : Ns) : List Tg → List Expr → Bool
  | [], l => b0 l true
  | t :: ts, l => bc l fun x xs => mTg NM ns t x && mTgs ns ts xs
noncomputable def isComp (x : Expr) : Bool := Nat.beq x.ctorIdx 8
end

noncomputable def constsAlone (v : Expr) : Bool := xTup v fun vs _ _ => vs.all (constantsAlone 8)
noncomputable def tgNames : List Tg → List Nat
  | [] => []
  | .loc x :: r => x :: tgNames r
  | .cel x :: r => x :: tgNames r
noncomputable def distinct : List Nat → Bool
  | [] => true
  | x :: r => !r.contains x && distinct r
section
variable (NM : Nat → Str) (md : Md)
mutual
noncomputable def mS (ns : Ns) : St → Stmt → Bool
  | .asg t e, xx => xAsg xx fun l v _ => b1 l fun x => mTg NM ns t x && mE NM md ns e v
  | .asgT ts e, xx => xAsg xx fun l v _ => b1 l fun x => xTup x fun xs _ _ => mTgs NM ns ts xs && mE NM md ns e v && !isComp v && !constsAlone v && distinct (tgNames ts) && decide (xs.length ≤ 5)
  | .asgC ts e, xx => xAsg xx fun l v _ => bc l fun x r => bc r fun y xs => mTgs NM ns ts (x :: y :: xs) && mE NM md ns e v && !isComp v
  | .setA o n e, xx => xAsg xx fun l v _ => b1 l fun x => xAtt x fun o' m _ => NM n == m && mE NM md ns o o' && mE NM md ns e v
  | .setI o i e, xx => xAsg xx fun l v _ => b1 l fun x => xSub x fun o' i' _ => !isSlice i' && mE NM md ns o o' && mE NM md ns i i' && mE NM md ns e v
  | .aug t op e, xx => xAug xx fun x op' v _ => decide (op = op') && mTg NM ns t x && mE NM md ns e v
  | .augA o n op e, xx => xAug xx fun x op' v _ => xAtt x fun o' m _ => decide (op = op') && NM n == m && mE NM md ns o o' && mE NM md ns e v
  | .ex e, xx => xEx xx fun v _ => mE NM md ns e v && !isComp v
  | .ife t a b, xx => xSIf xx fun t' a' b' _ => mT NM md ns t t' && mSs ns a a' && mSs ns b b'
  | .whl t b, xx => xWhl xx fun t' b' l _ => b0 l (mT NM md ns t t' && mSs ns b b')
  | .forr t it b, xx => xFor xx fun x it' b' l _ => b0 l (mTg NM ns t x && !isSet it' && mE NM md ns it it' && mSs ns b b')
  | .ret e, xx => xRet xx fun v _ => onSm v (isNone e) fun x => mE NM md ns e x
  | .brk, xx => xBrk xx fun _ => true
  | .cnt, xx => xCnt xx fun _ => true
  | .fdef t k fv, xx => xFd xx fun name args body ds re tp sc ts bind pos => b0 ds (bN re (b0 tp (bN ts (mTgN NM ns t bind && bind == name && freesAre NM ns sc.names fv && plainArgs args && (docOf body).isNone && md k name pos args (.stmts body) sc))))
  | .bad, _ => true
noncomputable def mSs (ns : Ns) : Ss → List Stmt → Bool
  | .nil, l => b0 l true
  | .cons s ss, l => bc l fun x xs => mS ns s x && mSs ns ss xs
end
end

theorem no_tt {P : Prop} (m : false = true) : P := nomatch m
/-! the frame; the words of a step -/
structure XOK (X : Cx) (G : Gl) (mg mb : Str → Option Value) : Prop where
  codes : ∀ t ∈ X.tabs, (∃ o, X.h₀.get? t.c = some o) ∧ t.c ∉ X.TP
  g : X.h₀.Ns mainGlobals mg
  gT : mainGlobals ∉ X.TP
  b : X.h₀.Ns builtinsNs mb
  bT : builtinsNs ∉ X.TP
  lim : X.h₀.NoLimit
  limT : cStatics ∉ X.TP
  inj : ∀ x y, X.NM x = X.NM y → x = y
  glb : ∀ x v, G.g x = some v → ∃ c, (mg (X.NM x) = some c ∨ (mg (X.NM x) = none ∧ mb (X.NM x) = some c)) ∧ ∀ h ρ, VR X h ρ v c
  bat : ∃ bm o, mg "__builtins__" = some (.ref bm) ∧ bm ≠ builtinsNs ∧ X.h₀.get? bm = some o ∧ o.cls = .type "module" ∧ o.dict = some builtinsNs ∧ o.data = .plain ∧ bm ∉ X.TP
  dist : ∀ t ∈ X.tabs, ∀ t' ∈ X.tabs, t.P = t'.P → t = t'
  prim : ∀ p, mg (primName p) = none ∧ mb (primName p) = some (primVal p)

structure FrR (X : Cx) (md : Md) (ρ : List Addr) (h : Heap) (env : Env) (fr : Fr) : Prop where
  kind : env.scope.kind = .function
  glob : env.globals = mainGlobals
  blt : env.builtins = builtinsNs
  nL : env.locals ∉ ρ
  tL : env.locals ∉ X.TP
  bL : X.h₀.get? env.locals = none
  loc : ∃ m, h.Ns env.locals m ∧ ∀ x v, lk fr.loc x = some v → ∃ c, m (X.NM x) = some c ∧ VR X h ρ v c
  cel : ∀ x i, lk fr.cel x = some i → (env.kindOf (X.NM x) = some .cell ∨ env.kindOf (X.NM x) = some .free) → ∃ a, ρ[i]? = some a ∧ env.cells.lookup (X.NM x) = some a
  mkc : ∀ k nm pos args body sc, md k nm pos args body sc = true → X.mdd k args body sc = true ∧ freesIn X.NM sc.names (X.fv k) = true ∧ ∃ t ∈ X.tabs, env.code = .ref t.c ∧ t.line = pos.line ∧ t.col = pos.col ∧ t.q = env.qual ++ nm

structure Room (A : Around) (d : Nat) : Prop where
  handled : A.handled = none
  depth : A.depth + d < 990
  units : A.units + 8 * d < 9000

noncomputable def EP (X : Cx) (ρ : List Addr) (h : Heap) (v : V) (H' : MH) (c : Value) (s' : Shared) : Prop :=
  ∃ ρ', Ext X ρ h ρ' s'.heap ∧ SOK X ρ' H' s' ∧ VR X s'.heap ρ' v c
noncomputable abbrev No : Value → Shared → Prop := fun _ _ => False
noncomputable abbrev Mx (X : Cx) : Model := model X.prog X.w

theorem Ns.not_imm {h : Heap} {a : Addr} {m} (n : h.Ns a m) : ∃ x, h.get? a = some x ∧ imm x = false := by
  obtain ⟨o, es, ep, e, d, _⟩ := n
  exact ⟨o, e, imm_dict d⟩
theorem Ns.step {h h' : Heap} {a : Addr} {m} (n : h.Ns a m) (k : ∀ x, h.get? a = some x → h'.get? a = some x) : h'.Ns a m := by
  obtain ⟨o, es, ep, e, r⟩ := n
  exact ⟨o, es, ep, k _ e, r⟩

theorem SOK.ne_code {X : Cx} {G mg mb} {ρ H s} (O : XOK X G mg mb) (S : SOK X ρ H s) {a : Addr} (m : a ∈ ρ) : ∀ t ∈ X.tabs, a ≠ t.c := fun t ht e => by
  obtain ⟨⟨o, h⟩, _⟩ := O.codes t ht
  rw [← e, S.hi a m] at h; cases h

theorem FrR.step {X : Cx} {md : Md} {ρ H s env fr ρ' h'} (F : FrR X md ρ s.heap env fr) (S : SOK X ρ H s) (E : Ext X ρ s.heap ρ' h') : FrR X md ρ' h' env fr := by
  obtain ⟨m, hn, hl⟩ := F.loc
  have M := S.mono E
  refine ⟨F.kind, F.glob, F.blt, fun q => ?_, F.tL, F.bL, ⟨m, Ns.step hn fun x e => E.ch _ _ e F.nL F.tL, fun x v e => Exists.elim (hl x v e) fun c q => ⟨c, q.1, q.2.mono M E.pre⟩⟩, fun x i e k => Exists.elim (F.cel x i e k) fun a q => ⟨a, pre_get E.pre q.1, q.2⟩, F.mkc⟩
  obtain ⟨x, h1, _⟩ := Ns.not_imm hn
  have := (E.new _ q F.nL).1
  rw [h1] at this; cases this

theorem EP.tok {X : Cx} {ρ H s v c} (S : SOK X ρ H s) (r : VR X s.heap ρ v c) (t : Nat) : EP X ρ s.heap v H c { s with toks := t } := ⟨ρ, Ext.refl, S.tok t, r⟩
theorem EP.same {X : Cx} {ρ H s v c} (S : SOK X ρ H s) (r : VR X s.heap ρ v c) : EP X ρ s.heap v H c s := ⟨ρ, Ext.refl, S, r⟩
theorem EP.trans {X : Cx} {ρ h ρ' h' v H c s} (E : Ext X ρ h ρ' h') (p : EP X ρ' h' v H c s) : EP X ρ h v H c s := Exists.elim p fun ρ'' q => ⟨ρ'', E.trans q.1, q.2⟩
theorem EP.grow {X : Cx} {ρ H s v c} (S : SOK X ρ H s) {s' : Shared} (k : Keep s.heap s'.heap) (g : s'.gens = s.gens) (o : s'.os = s.os) (r : VR X s'.heap ρ v c) : EP X ρ s.heap v H c s' :=
  ⟨ρ, SOK.ext_keep k, S.grow k g o, r⟩
/-- a new list, its place and its items -/
theorem EP.list {X : Cx} {ρ H s} (S : SOK X ρ H s) {s' : Shared} {a : Addr} {vs : List V} {items : List Value} {n : Nat} (hn : s.heap.get? a = none) (k : Keep s.heap s'.heap) (g : s'.gens = s.gens) (o : s'.os = s.os)
    (hl : s'.heap.get? a = some { cls := .type "list", data := .seq items.toArray n }) (r : VRs X s.heap ρ vs items) : EP X ρ s.heap (.ref H.length) (H ++ [.list vs]) (.ref a) s' := by
  have M : Mono s.heap s'.heap := fun b o e _ => k b o e
  obtain ⟨S', E⟩ := S.alloc k hn (o := .list vs) ⟨items, n, hl, r.mono M (List.prefix_append ..)⟩ g o
  refine ⟨ρ ++ [a], E, S', ?_⟩
  exact ⟨a, by rw [← S.len, List.getElem?_append_right (Nat.le_refl _)]; simp, rfl⟩

theorem size_none (h : Heap) : h.get? h.objs.size = none := by
  cases q : h.get? h.objs.size with
  | none => rfl
  | some o => exact absurd (Heap.lt_size q) (Nat.lt_irrefl _)
theorem keep_push (h : Heap) (o : Obj) : Keep h (h.push o) := fun _ _ e => Heap.get?_push_of_some _ e
end Rz
end Q3
section Q4
open PySem PySem.W PySem.Calls PyProof.Rows
namespace Rz
set_option linter.unusedVariables false

section
variable {X : Cx} {A : Around} {ρ : List Addr} {H : MH} {s : Shared}

theorem listAt_some {h : MH} {i : Nat} {vs : List V} (e : listAt h i = some vs) : h[i]? = some (.list vs) := by
  obtain ⟨w, e1, e2⟩ := onLst_some e
  rw [e1, Option.some.inj e2]
/-- the list that stands at a mini place -/
theorem SOK.listOf (S : SOK X ρ H s) {i : Nat} {vs : List V} (e : listAt H i = some vs) {c : Value} (r : VR X s.heap ρ (.ref i) c) :
    ∃ (a : Addr) (items : List Value) (n : Nat), c = .ref a ∧ ρ[i]? = some a ∧ s.heap.get? a = some { cls := .type "list", data := .seq items.toArray n } ∧ VRs X s.heap ρ vs items := by
  obtain ⟨a, e1, rfl⟩ := r
  obtain ⟨items, n, h1, h2⟩ := S.obj i _ a (listAt_some e) e1
  exact ⟨a, items, n, rfl, e1, h1, h2⟩
theorem VRs.cons {h : Heap} {v : V} {vs : List V} {c : Value} {cs : List Value} (a : VR X h ρ v c) (b : VRs X h ρ vs cs) : VRs X h ρ (v :: vs) (c :: cs) := Exists.intro c (Exists.intro cs ⟨rfl, a, b⟩)
@[elab_as_elim] theorem VRs.nil_e {h : Heap} {cs : List Value} {P : List Value → Prop} (r : VRs X h ρ [] cs) (k : P []) : P cs := (show cs = [] from r) ▸ k
@[elab_as_elim] theorem VRs.cons_e {h : Heap} {v : V} {vs : List V} {cs : List Value} {P : List Value → Prop} (r : VRs X h ρ (v :: vs) cs) (k : ∀ c r, VR X h ρ v c → VRs X h ρ vs r → P (c :: r)) : P cs := by
  obtain ⟨c, q, rfl, a, b⟩ := r
  exact k c q a b
@[elab_as_elim] theorem VR.int_e {h : Heap} {i : Int} {c : Value} {P : Value → Prop} (r : VR X h ρ (.int i) c) (k : ∀ t, P (.int i t)) : P c := by
  obtain ⟨t, rfl⟩ := r
  exact k t
@[elab_as_elim] theorem VR.str_e {h : Heap} {i : List Nat} {c : Value} {P : Value → Prop} (r : VR X h ρ (.str i) c) (k : ∀ t, P (.str ⟨i.toArray⟩ t)) : P c := by
  obtain ⟨t, rfl⟩ := r
  exact k t
@[elab_as_elim] theorem VR.ref_e {h : Heap} {i : Nat} {c : Value} {P : Value → Prop} (r : VR X h ρ (.ref i) c) (k : ∀ a, ρ[i]? = some a → P (.ref a)) : P c := by
  obtain ⟨t, e, rfl⟩ := r
  exact k t e
theorem VR.int {h : Heap} {i : Int} {t : Tok} : VR X h ρ (.int i) (.int i t) := Exists.intro t rfl
theorem VR.str {h : Heap} {i : List Nat} {t : Tok} : VR X h ρ (.str i) (.str ⟨i.toArray⟩ t) := Exists.intro t rfl
theorem VR.strAt {h : Heap} {i : List Nat} {t : Tok} {c : Value} (e : c = .str ⟨i.toArray⟩ t) : VR X h ρ (.str i) c := Exists.intro t e
theorem VR.intAt {h : Heap} {i : Int} {t : Tok} {c : Value} (e : c = .int i t) : VR X h ρ (.int i) c := Exists.intro t e
theorem VR.rngAt {h : Heap} {a b c : Int} {r : Addr} {t u w : Tok} (e : IsRange h r a b c t u w) : VR X h ρ (.rng a b c) (.ref r) := Exists.intro r ⟨t, u, w, rfl, e⟩
theorem VR.ref {h : Heap} {i : Nat} {a : Addr} (e : ρ[i]? = some a) : VR X h ρ (.ref i) (.ref a) := Exists.intro a ⟨e, rfl⟩
theorem VRs.ind {h : Heap} {P : List V → List Value → Prop} (n : P [] []) (k : ∀ v c vs cs, VR X h ρ v c → P vs cs → P (v :: vs) (c :: cs)) {vs : List V} {cs : List Value} (r : VRs X h ρ vs cs) : P vs cs := by
  induction vs generalizing cs with
  | nil => exact VRs.nil_e r n
  | cons v vs ih => exact VRs.cons_e r fun c q a b => k v c vs q a (ih b)
theorem VRs.ind2 {h : Heap} {P : List V → List Value → Prop} (n : P [] []) (k : ∀ v c vs cs, VR X h ρ v c → VRs X h ρ vs cs → P vs cs → P (v :: vs) (c :: cs)) {vs : List V} {cs : List Value} (r : VRs X h ρ vs cs) : P vs cs := by
  induction vs generalizing cs with
  | nil => exact VRs.nil_e r n
  | cons v vs ih => exact VRs.cons_e r fun c q a b => k v c vs q a b (ih b)
theorem VRs.length {h : Heap} {vs : List V} {cs : List Value} (r : VRs X h ρ vs cs) : cs.length = vs.length :=
  VRs.ind (P := fun vs cs => cs.length = vs.length) rfl (fun _v _c _vs _cs _a ih => congrArg (· + 1) ih) r
theorem VRs.append {h : Heap} {vs ws : List V} {cs ds : List Value} (r : VRs X h ρ vs cs) (f : VRs X h ρ ws ds) : VRs X h ρ (vs ++ ws) (cs ++ ds) :=
  VRs.ind (P := fun vs cs => VRs X h ρ (vs ++ ws) (cs ++ ds)) f (fun _v _c _vs _cs a ih => VRs.cons a ih) r
theorem VRs.get {h : Heap} {vs : List V} {cs : List Value} (r : VRs X h ρ vs cs) : ∀ {k : Nat} {v : V}, vs[k]? = some v → ∃ c, cs[k]? = some c ∧ VR X h ρ v c :=
  VRs.ind (P := fun vs cs => ∀ {k : Nat} {v : V}, vs[k]? = some v → ∃ c, cs[k]? = some c ∧ VR X h ρ v c) (fun q => no_some q) (fun v c vs cs a ih k w q => by
    cases k with
    | zero => exact some_e (P := fun w => ∃ c', some c = some c' ∧ VR X h ρ w c') q ⟨c, rfl, a⟩
    | succ k => exact ih q) r
theorem VRs.none_at {h : Heap} {vs : List V} {cs : List Value} (r : VRs X h ρ vs cs) {k : Nat} (q : vs[k]? = none) : cs[k]? = none := by
  rw [List.getElem?_eq_none_iff] at q ⊢
  rw [VRs.length r]; exact q
theorem VRs.replicate {h : Heap} {v : V} {c : Value} (r : VR X h ρ v c) (n : Nat) : VRs X h ρ (List.replicate n v) (List.replicate n c) := by
  induction n with
  | zero => rfl
  | succ n ih => exact VRs.cons r ih
theorem VRs.set {h : Heap} {v : V} {c : Value} (r : VR X h ρ v c) {vs : List V} {cs : List Value} (e : VRs X h ρ vs cs) : ∀ k, VRs X h ρ (vs.set k v) (cs.set k c) :=
  VRs.ind2 (P := fun vs cs => ∀ k, VRs X h ρ (vs.set k v) (cs.set k c)) (fun k => rfl) (fun w d vs cs a b ih k => by
    cases k with
    | zero => exact VRs.cons r b
    | succ k => exact VRs.cons a (ih k)) e
theorem VRs.reverse {h : Heap} {vs : List V} {cs : List Value} (e : VRs X h ρ vs cs) : VRs X h ρ vs.reverse cs.reverse :=
  VRs.ind (P := fun vs cs => VRs X h ρ vs.reverse cs.reverse) rfl (fun w d vs cs a ih => by
    rw [List.reverse_cons, List.reverse_cons]
    exact VRs.append ih (VRs.cons a rfl)) e
theorem VRs.take {h : Heap} {vs : List V} {cs : List Value} (e : VRs X h ρ vs cs) : ∀ k, VRs X h ρ (vs.take k) (cs.take k) :=
  VRs.ind (P := fun vs cs => ∀ k, VRs X h ρ (vs.take k) (cs.take k)) (fun k => by cases k <;> rfl) (fun w d vs cs a ih k => by
    cases k with
    | zero => rfl
    | succ k => exact VRs.cons a (ih k)) e
theorem VRs.filterMap {h : Heap} {vs : List V} {cs : List Value} (r : VRs X h ρ vs cs) (is : List Nat) : VRs X h ρ (is.filterMap (vs[·]?)) (is.filterMap (cs[·]?)) := by
  induction is with
  | nil => rfl
  | cons i is ih =>
    rw [List.filterMap_cons, List.filterMap_cons]
    cases q : vs[i]? with
    | none => rw [VRs.none_at r q]; exact ih
    | some v =>
      obtain ⟨c, h1, h2⟩ := VRs.get r q
      rw [h1]
      exact VRs.cons h2 ih

theorem S_append (a b : List Nat) : (⟨a.toArray⟩ : Str) ++ (⟨b.toArray⟩ : Str) = ⟨(a ++ b).toArray⟩ := by
  apply Str.ext'; rw [Str.cps_append]; simp
theorem S_length (a : List Nat) : (⟨a.toArray⟩ : Str).length = a.length := by simp [Str.length]

theorem fold_single (c : Value) : ∀ (n : Nat) (acc : Array Value), List.foldl (fun x1 x2 => x1 ++ x2) acc (List.replicate n #[c]) = acc ++ (List.replicate n c).toArray
  | 0, acc => by simp
  | n + 1, acc => by rw [List.replicate_succ, List.foldl_cons, fold_single c n, List.replicate_succ]; apply Array.ext'; simp
theorem mul_list1 {l : Addr} {c : Value} {k : Nat} {x : Int} {u : Tok} {E : Value → Shared → Prop} {Q : Value → Shared → Prop}
    (hl : s.heap.get? l = some { cls := .type "list", data := .seq [c].toArray k }) (h0 : 0 ≤ x) (h1 : x ≤ 16777216)
    (h : Q (.ref s.heap.objs.size) { s with heap := s.heap.push { cls := .type "list", data := .seq (List.replicate x.toNat c).toArray } }) :
    wpAny (Mx X) A (binaryOp .Mult (.ref l) (.int x u)) Q E s := by
  refine wpAny_binaryOp_repeat_ref (T := "list") (U := "int") (by decide) ⟨_, hl, rfl⟩ (fun s' => typeIs_int s' x u) noFill_list_mul F.fills_int_mul F.slot_int_rmul repeat_list F.slot_int_index.lookup
    (call_meets F.slot_int_rmul (typeIs_int s x u) F.entry_int_rmul (F.args_int_rmul_2 _ _) (int___rmul___int_list x u l [c].toArray k)
      ⟨hl, rfl, ⟨_, hl, rfl⟩, call_meets F.slot_list_mul ⟨_, hl, rfl⟩ F.entry_list_mul (F.args_list_mul_2 _ _)
        (AutoListH.list___mul___list_int_3 l [c].toArray k x u (by simp [Builtin.List.listFitsIndex]; (first | lia | omega)) (by simp; (first | lia | omega)) (by simp [Builtin.List.listTooLong, sizeLine]; (first | lia | omega)))
        ⟨hl, ?_⟩⟩)
  have e : List.foldl (fun (x1 x2 : Array Value) => x1 ++ x2) #[] (List.replicate (if ([c].toArray).isEmpty = true then 0 else x.toNat) [c].toArray) = (List.replicate x.toNat c).toArray := by
    rw [if_neg (by simp)]
    rw [show ([c].toArray : Array Value) = #[c] from rfl, fold_single]; simp
  rw [e]
  exact h

@[elab_as_elim] theorem int2_r {h : Heap} {va vb : V} {ca cb : Value} {α : Type} {r : α} {k : Int → Int → Option α} {P : Value → Value → Prop} (e : int2 va vb k = some r) (ra : VR X h ρ va ca) (rb : VR X h ρ vb cb) (f : ∀ x y t u, k x y = some r → P (.int x t) (.int y u)) : P ca cb := by
  obtain ⟨x, y, rfl, rfl, e⟩ := int2_some e
  obtain ⟨t, rfl⟩ := ra
  obtain ⟨u, rfl⟩ := rb
  exact f x y t u e
theorem str2_r {h : Heap} {x y : List Nat} {ca cb : Value} {P : Value → Value → Prop} (ra : VR X h ρ (.str x) ca) (rb : VR X h ρ (.str y) cb) (f : ∀ t u, P (.str ⟨x.toArray⟩ t) (.str ⟨y.toArray⟩ u)) : P ca cb := by
  obtain ⟨t, rfl⟩ := ra
  obtain ⟨u, rfl⟩ := rb
  exact f t u
@[elab_as_elim] theorem SOK.list_e (S : SOK X ρ H s) {i : Nat} {vs : List V} {c : Value} {P : Value → Prop} (e : listAt H i = some vs) (r : VR X s.heap ρ (.ref i) c)
    (k : ∀ (a : Addr) (items : List Value) (n : Nat), ρ[i]? = some a → s.heap.get? a = some { cls := .type "list", data := .seq items.toArray n } → VRs X s.heap ρ vs items → P (.ref a)) : P c := by
  obtain ⟨a, items, n, rfl, h1, h2, h3⟩ := S.listOf e r
  exact k a items n h1 h2 h3
@[elab_as_elim] theorem VRs.one_e {h : Heap} {v : V} {cs : List Value} {P : List Value → Prop} (r : VRs X h ρ [v] cs) (k : ∀ c, VR X h ρ v c → P [c]) : P cs :=
  VRs.cons_e r fun c q a b => VRs.nil_e (P := fun q => P (c :: q)) b (k c a)
@[elab_as_elim] theorem VRs.two_e {h : Heap} {v w : V} {cs : List Value} {P : List Value → Prop} (r : VRs X h ρ [v, w] cs) (k : ∀ c d, VR X h ρ v c → VR X h ρ w d → P [c, d]) : P cs :=
  VRs.cons_e r fun c q a b => VRs.one_e (P := fun q => P (c :: q)) b fun d f => k c d a f
theorem addI_ok {x y : Int} {ca cb : Value} (S : SOK X ρ H s) (ra : VR X s.heap ρ (.int x) ca) (rb : VR X s.heap ρ (.int y) cb) : wpAny (Mx X) A (binaryOp .Add ca cb) (EP X ρ s.heap (.int (x + y)) H) No s :=
  VR.int_e ra fun t => VR.int_e rb fun u => add_int (EP.tok S VR.int _)
theorem addL_ok {i j : Nat} {v : V} {H' : MH} {ca cb : Value} (e : catL H (listAt H i) (listAt H j) = some (v, H')) (S : SOK X ρ H s) (ra : VR X s.heap ρ (.ref i) ca) (rb : VR X s.heap ρ (.ref j) cb) : wpAny (Mx X) A (binaryOp .Add ca cb) (EP X ρ s.heap v H') No s := by
  cases ea : listAt H i with
  | none => rw [ea] at e; exact no_some e
  | some a =>
  cases eb : listAt H j with
  | none => rw [ea, eb] at e; exact no_some e
  | some b =>
  rw [ea, eb] at e
  refine ifp_e e fun hm => ?_
  obtain ⟨la, ia, na, rfl, _, ga, ra⟩ := S.listOf ea ra
  obtain ⟨lb, ib, nb, rfl, _, gb, rb⟩ := S.listOf eb rb
  refine PySem.P.add_list (n := na) (n2 := nb) ga gb ?_ (by rw [List.size_toArray, List.size_toArray, VRs.length ra, VRs.length rb]; exact hm)
  refine EP.list S (n := 0) (size_none _) (keep_push _ _) rfl rfl ?hz (VRs.append ra rb)
  rw [show (ia ++ ib).toArray = ia.toArray ++ ib.toArray from by simp]
  exact Heap.get?_push_size _ rfl
theorem addV_ok {va vb v : V} {H' : MH} {ca cb : Value} (e : addV va vb H = some (v, H')) (S : SOK X ρ H s) (ra : VR X s.heap ρ va ca) (rb : VR X s.heap ρ vb cb) :
    wpAny (Mx X) A (binaryOp .Add ca cb) (EP X ρ s.heap v H') No s := by
  cases va <;> (try (exact no_some e)) <;> cases vb <;> (try (exact no_some e))
  · exact pair_e e (addI_ok S ra rb)
  · exact ifp_e e fun hm => str2_r (P := fun ca cb => wpAny (Mx X) A (binaryOp .Add ca cb) _ No s) ra rb fun t u => add_str (fun t' tk => EP.tok S (v := .str _) (VR.strAt (t := t') (by rw [S_append])) _) (by rw [S_length, S_length]; exact hm)
  · exact addL_ok e S ra rb
theorem repL_ok {i : Nat} {n : Int} {v : V} {H' : MH} {ca cb : Value} {o : Option (List V)} (eo : listAt H i = o) (e : repL H n o = some (v, H')) (S : SOK X ρ H s) (ra : VR X s.heap ρ (.ref i) ca) (rb : VR X s.heap ρ (.int n) cb) : wpAny (Mx X) A (binaryOp .Mult ca cb) (EP X ρ s.heap v H') No s := by
  rcases o with _ | _ | ⟨a, _ | ⟨_, _⟩⟩
  · exact no_some e
  · exact no_some e
  · refine ifp_e e fun hm => ?_
    obtain ⟨la, ia, na, rfl, _, ga, ra⟩ := S.listOf eo ra
    obtain ⟨u, rfl⟩ := rb
    obtain ⟨c, r, rfl, rc, rfl⟩ := ra
    exact mul_list1 ga hm.1 hm.2 (EP.list S (n := 0) (size_none _) (keep_push _ _) rfl rfl (Heap.get?_push_size _ rfl) (VRs.replicate rc _))
  · exact no_some e
theorem mulI_ok {x y : Int} (h : mulOk x y = true) : IntMulOk x y := by
  unfold mulOk at h; unfold IntMulOk; rw [Bool.not_eq_true'] at h; rw [h]; decide
theorem mulV_ok {va vb v : V} {H' : MH} {ca cb : Value} (e : mulV va vb H = some (v, H')) (S : SOK X ρ H s) (ra : VR X s.heap ρ va ca) (rb : VR X s.heap ρ vb cb) :
    wpAny (Mx X) A (binaryOp .Mult ca cb) (EP X ρ s.heap v H') No s := by
  cases va <;> (try (exact no_some e)) <;> cases vb <;> (try (exact no_some e))
  · exact ifp_e e fun hm => VR.int_e ra fun t => VR.int_e rb fun u => mul_int (EP.tok S VR.int _) (mulI_ok hm)
  · exact repL_ok rfl e S ra rb
theorem binV_ok {op : Operator} {va vb v : V} {H' : MH} {ca cb : Value} (e : binV op va vb H = some (v, H')) (S : SOK X ρ H s) (ra : VR X s.heap ρ va ca) (rb : VR X s.heap ρ vb cb) :
    wpAny (Mx X) A (binaryOp op ca cb) (EP X ρ s.heap v H') No s := by
  cases op <;> (try (exact no_some e))
  case Add => exact addV_ok e S ra rb
  case Sub => exact int2_r e ra rb fun x y t u e => pair_e e (sub_int (EP.tok S VR.int _))
  case Mult => exact mulV_ok e S ra rb
  case FloorDiv => exact int2_r e ra rb fun x y t u e => ifp_e e fun hm => floordiv_int hm.1 (EP.tok S VR.int _) (.inl (PyProof.noPylong_small hm.2))
  case Mod => exact int2_r e ra rb fun x y t u e => ifp_e e fun hm => mod_int' hm (EP.tok S VR.int _)
  case Pow => exact int2_r e ra rb fun x y t u e => ifp_e e fun hm => pow_int hm.1 (by simpa using hm.2) (EP.tok S VR.int _)
  case LShift => exact int2_r e ra rb fun x y t u e => ifp_e e fun hm => lshift_int hm.1 (by simpa using hm.2) (EP.tok S VR.int _)
  case RShift => exact int2_r e ra rb fun x y t u e => ifp_e e fun hm => rshift_int hm (EP.tok S VR.int _)
  case BitAnd => exact int2_r e ra rb fun x y t u e => pair_e e (and_int (EP.tok S VR.int _))
  case BitOr => exact int2_r e ra rb fun x y t u e => pair_e e (or_int (EP.tok S VR.int _))
  case BitXor => exact int2_r e ra rb fun x y t u e => pair_e e (xor_int (EP.tok S VR.int _))
end
end Rz
end Q4
section Q5
open PySem PySem.W PySem.Calls PyProof.Rows
namespace Rz
set_option linter.unusedVariables false

theorem natsEq_eq : ∀ a b : List Nat, natsEq a b = decide (a = b)
  | [], [] => rfl
  | [], _ :: _ => rfl
  | _ :: _, [] => rfl
  | a :: r, b :: q => by
    rw [show natsEq (a :: r) (b :: q) = (match Nat.beq a b with | true => natsEq r q | false => false) from rfl, BT.beq_eq, natsEq_eq r q]
    by_cases h : a = b <;> simp [h]
theorem S_beq (a b : List Nat) : ((⟨a.toArray⟩ : Str) == ⟨b.toArray⟩) = natsEq a b := by
  rw [natsEq_eq]
  by_cases h : a = b
  · subst h; simp
  · rw [decide_eq_false h, beq_eq_false_iff_ne]
    intro e
    injection e with e
    exact h (by simpa using e)
theorem S_beq' (a b : List Nat) : ((⟨a.toArray⟩ : Str).cps.toList == (⟨b.toArray⟩ : Str).cps.toList) = natsEq a b := by
  rw [natsEq_eq]; by_cases h : a = b <;> simp [h]
noncomputable def pyAtom : V → PyData
  | .int i => .int i
  | .str s => .str ⟨s.toArray⟩
  | _ => .none
theorem eqv_atom {v u : V} (h1 : atomB v = true) (h2 : atomB u = true) : PyData.eqv (pyAtom v) (pyAtom u) = eqAtom v u := by
  refine atomB_e h1 (fun i => ?_) (fun s _ => ?_)
  · exact atomB_e (P := fun u => PyData.eqv (pyAtom (.int i)) (pyAtom u) = eqAtom (.int i) u) h2 (fun j => by simp only [pyAtom, PyData.eqv]; rfl) (fun w _ => by simp only [pyAtom, PyData.eqv]; rfl)
  · exact atomB_e (P := fun u => PyData.eqv (pyAtom (.str s)) (pyAtom u) = eqAtom (.str s) u) h2 (fun j => by simp only [pyAtom, PyData.eqv]; rfl) (fun w _ => by simp only [pyAtom, PyData.eqv, S_beq]; rfl)
theorem eqv_atoms : ∀ {a b : List V}, allAtoms a = true → allAtoms b = true → PyData.eqvAll (a.map pyAtom) (b.map pyAtom) = eqAtoms a b
  | [], [], _, _ => rfl
  | [], _ :: _, _, _ => rfl
  | _ :: _, [], _, _ => rfl
  | v :: r, u :: q, h1, h2 => by
    rw [allAtoms_cons, Bool.and_eq_true] at h1 h2
    simp only [List.map_cons, PyData.eqvAll, eqAtoms_cons]
    rw [eqv_atom h1.1 h2.1, eqv_atoms h1.2 h2.2]
theorem lay_atom {v : V} (h : atomB v = true) : PyData.canLay0 (pyAtom v) = true ∧ PyData.depth (pyAtom v) = 0 :=
  atomB_e h (fun i => ⟨rfl, rfl⟩) (fun s hs => ⟨hs, rfl⟩)
theorem lay_atoms : ∀ {a : List V}, allAtoms a = true → PyData.canLayAll0 (a.map pyAtom) = true ∧ PyData.depthAll (a.map pyAtom) = 0
  | [], _ => ⟨rfl, rfl⟩
  | v :: r, h => by
    rw [allAtoms_cons, Bool.and_eq_true] at h
    obtain ⟨h1, h2⟩ := lay_atoms h.2
    obtain ⟨h3, h4⟩ := lay_atom h.1
    refine ⟨?_, ?_⟩
    · simp only [List.map_cons, PyData.canLayAll0, h1, h3, Bool.and_self]
    · simp only [List.map_cons, PyData.depthAll, h2, h4]; rfl

section
variable {X : Cx} {A : Around} {ρ : List Addr} {H : MH} {s : Shared}
theorem carried_atom {h : Heap} {v : V} {c : Value} (q : atomB v = true) (e : VR X h ρ v c) : Carried c (pyAtom v) := by
  revert e
  exact atomB_e (P := fun v => VR X h ρ v c → Carried c (pyAtom v)) q (fun i e => by obtain ⟨t, rfl⟩ := e; exact .int _ _) (fun s _ e => by obtain ⟨t, rfl⟩ := e; exact .str _ _)
theorem carried_atoms {h : Heap} : ∀ {a : List V} {cs : List Value}, allAtoms a = true → VRs X h ρ a cs → CarriedAll cs (a.map pyAtom)
  | [], _, _, e => by cases (show _ = _ from e); exact .nil
  | v :: r, _, q, e => by
    obtain ⟨c, cs, rfl, e1, e2⟩ := e
    rw [allAtoms_cons, Bool.and_eq_true] at q
    exact .cons (carried_atom q.1 e1) (carried_atoms q.2 e2)
theorem readsAll_carried {h : Heap} : ∀ {cs : List Value} {ds : List PyData}, CarriedAll cs ds → ReadsAll h cs ds []
  | _, _, .nil => .nil
  | _, _, .cons c r => by
    have := readsAll_carried (h := h) r
    cases c <;> first | exact .cons (.int _ _) this | exact .cons (.bool _) this | exact .cons (.str _ _) this | exact .cons .none this

theorem shaped_list {a : List V} (h : allAtoms a = true) : SeqAt.shaped (.list (a.map pyAtom)) = true ∧ SeqAt.shaped (.tuple (a.map pyAtom)) = true := by
  obtain ⟨h1, h2⟩ := lay_atoms h
  unfold SeqAt.shaped
  simp [PyData.canLay0, PyData.depth, h1, h2]
/-- two values that one looks at by == : data of the model's own kind -/
theorem eqV_reads {a b : V} {ca cb : Value} {r : Bool} (ns : ∀ x y, ¬(a = .str x ∧ b = .str y)) (e : eqV a b H = some r) (S : SOK X ρ H s) (ra : VR X s.heap ρ a ca) (rb : VR X s.heap ρ b cb) :
    ∃ da db as bs, Reads s.heap ca da as ∧ Reads s.heap cb db bs ∧ SeqAt.shaped da = true ∧ SeqAt.shaped db = true ∧ PyData.eqv da db = r := by
  have two : ∀ {a b : List V} {r : Bool}, eqLs a b = some r → allAtoms a = true ∧ allAtoms b = true ∧ eqAtoms a b = r := fun e => by
    obtain ⟨h, e⟩ := if_some e
    obtain ⟨h1, h2⟩ := Bool.and_eq_true_iff.mp h
    exact ⟨h1, h2, e⟩
  cases a with
  | int a =>
    obtain ⟨b, rfl, e⟩ := onI_some e
    obtain ⟨t, rfl⟩ := ra; obtain ⟨u, rfl⟩ := rb
    exact ⟨_, _, _, _, .int _ _, .int _ _, rfl, rfl, Option.some.inj e⟩
  | str a =>
    obtain ⟨b, rfl, e⟩ := onS_some e
    exact absurd ⟨rfl, rfl⟩ (ns _ _)
  | bool a =>
    obtain ⟨b, rfl, e⟩ := onB_some e
    cases (show _ = _ from ra); cases (show _ = _ from rb)
    exact ⟨_, _, _, _, .bool _, .bool _, rfl, rfl, Option.some.inj e⟩
  | tup a =>
    obtain ⟨b, rfl, e⟩ := onTup_some e
    obtain ⟨h1, h2, e⟩ := two e
    obtain ⟨x, xs, rfl, ⟨o, g1, g2, n, g3⟩, r1⟩ := ra
    obtain ⟨y, ys, rfl, ⟨o', k1, k2, n', k3⟩, r2⟩ := rb
    exact ⟨_, _, _, _, .tuple g1 g2 g3 (readsAll_carried (carried_atoms h1 r1)), .tuple k1 k2 k3 (readsAll_carried (carried_atoms h2 r2)), (shaped_list h1).2, (shaped_list h2).2, (eqv_atoms h1 h2).trans e⟩
  | ref i =>
    obtain ⟨j, rfl, e⟩ := onR_some e
    obtain ⟨xs, ea, e1⟩ := onL_some e
    obtain ⟨ys, eb, e2⟩ := onL_some e1
    obtain ⟨h1, h2, e3⟩ := two e2
    obtain ⟨la, ia, na, rfl, _, ga, ra⟩ := S.listOf ea ra
    obtain ⟨lb, ib, nb, rfl, _, gb, rb⟩ := S.listOf eb rb
    exact ⟨_, _, _, _, reads_newData ⟨_, ga, rfl, _, rfl⟩ (carried_atoms h1 ra), reads_newData ⟨_, gb, rfl, _, rfl⟩ (carried_atoms h2 rb), (shaped_list h1).1, (shaped_list h2).1, (eqv_atoms h1 h2).trans e3⟩
  | none => exact no_some e
  | rng => exact no_some e
  | con => exact no_some e
  | clo => exact no_some e
  | bm => exact no_some e

theorem cmp_eq {a b : V} {ca cb : Value} {r : Bool} (O : Room A 0) (e : eqV a b H = some r) (S : SOK X ρ H s) (ra : VR X s.heap ρ a ca) (rb : VR X s.heap ρ b cb) :
    wpAny (Mx X) A (compareOp .Eq ca cb) (fun c s' => c = .bool r ∧ s' = s) No s := by
  by_cases q : ∃ x y, a = .str x ∧ b = .str y
  · obtain ⟨x, y, rfl, rfl⟩ := q
    obtain ⟨t, rfl⟩ := ra; obtain ⟨u, rfl⟩ := rb
    exact eq_str ⟨by rw [S_beq, Option.some.inj e], rfl⟩
  · obtain ⟨da, db, as, bs, h1, h2, h3, h4, h5⟩ := eqV_reads (fun x y z => q ⟨x, y, z⟩) e S ra rb
    have := O.units
    exact eq_dataH h1 h2 h3 h4 (by rw [show cLine = 9900 from rfl]; (first | lia | omega)) ⟨by rw [h5], rfl⟩
theorem cmp_ne {a b : V} {ca cb : Value} {r : Bool} (O : Room A 0) (e : eqV a b H = some r) (S : SOK X ρ H s) (ra : VR X s.heap ρ a ca) (rb : VR X s.heap ρ b cb) :
    wpAny (Mx X) A (compareOp .NotEq ca cb) (fun c s' => c = .bool (!r) ∧ s' = s) No s := by
  by_cases q : ∃ x y, a = .str x ∧ b = .str y
  · obtain ⟨x, y, rfl, rfl⟩ := q
    obtain ⟨t, rfl⟩ := ra; obtain ⟨u, rfl⟩ := rb
    exact ne_str ⟨by rw [bne, S_beq, Option.some.inj e], rfl⟩
  · obtain ⟨da, db, as, bs, h1, h2, h3, h4, h5⟩ := eqV_reads (fun x y z => q ⟨x, y, z⟩) e S ra rb
    have := O.units
    exact ne_dataH h1 h2 h3 h4 (by rw [show cLine = 9900 from rfl]; (first | lia | omega)) ⟨by rw [h5], rfl⟩

noncomputable def isStrV (x : List Nat) : Value → Bool
  | .str z _ => z == ⟨x.toArray⟩
  | _ => false
theorem onlyStr_t {v : V} {vs : List V} (e : onlyStr (v :: vs) = true) : ∃ y, v = .str y ∧ onlyStr vs = true := by
  cases v <;> first | exact ⟨_, rfl, e⟩ | exact nomatch (show false = true from e)
theorem inStr_any {h : Heap} {x : List Nat} : ∀ {vs : List V} {cs : List Value}, onlyStr vs = true → VRs X h ρ vs cs → cs.any (isStrV x) = inStr x vs ∧ ∀ c ∈ cs, ∃ y t, c = .str y t
  | [], _, _, q => by cases (show _ = _ from q); exact ⟨rfl, fun c m => nomatch m⟩
  | v :: vs, _, e, q => by
    obtain ⟨c, cs, rfl, q1, q2⟩ := q
    obtain ⟨y, rfl, e'⟩ := onlyStr_t e
    obtain ⟨i1, i2⟩ := inStr_any (vs := vs) e' q2
    obtain ⟨t, rfl⟩ := q1
    refine ⟨?_, fun c m => ?_⟩
    · rw [List.any_cons, i1]
      show (((⟨y.toArray⟩ : Str) == ⟨x.toArray⟩) || _) = _
      rw [S_beq]
      show _ = (match natsEq y x with | true => true | false => inStr x vs)
      cases natsEq y x <;> rfl
    · rcases List.mem_cons.mp m with rfl | m
      · exact ⟨_, _, rfl⟩
      · exact i2 c m
theorem eqAt_strs {x : List Nat} {t : Tok} {cs : List Value} (h : ∀ c ∈ cs, ∃ y t, c = .str y t) {A : Around} {s : Shared} : ∀ y, y ∈ cs.toArray → SeqAt.EqAt A s y (.str ⟨x.toArray⟩ t) (isStrV x y) := fun y m => by
  obtain ⟨z, u, rfl⟩ := h y (by simpa using m)
  exact SeqAt.EqAt.str_str z u _ t

theorem occ_sign (c : Nat) : ∀ (l : List Nat), inSigns c l = l.contains c
  | [] => rfl
  | d :: r => by
    unfold inSigns
    rw [BT.beq_eq, List.contains_cons, occ_sign c r]
    by_cases h : d = c
    · subst h; simp
    · simp [h, Ne.symm h]
theorem cmp_in {a b : V} {ca cb : Value} {r : Bool} (e : inV a b H = some r) (S : SOK X ρ H s) (ra : VR X s.heap ρ a ca) (rb : VR X s.heap ρ b cb) :
    wpAny (Mx X) A (compareOp .In ca cb) (fun c s' => c = .bool r ∧ s' = s) No s ∧ wpAny (Mx X) A (compareOp .NotIn ca cb) (fun c s' => c = .bool (!r) ∧ s' = s) No s := by
  obtain ⟨x, rfl, e⟩ := onS_some e
  obtain ⟨t, rfl⟩ := ra
  cases b with
  | ref j =>
    obtain ⟨vs, ev, e1⟩ := onL_some e
    obtain ⟨ho, e2⟩ := if_some e1
    obtain ⟨lb, ib, nb, rfl, _, gb, rb⟩ := S.listOf ev rb
    obtain ⟨i1, i2⟩ := inStr_any (x := x) ho rb
    have hl : s.heap.IsList lb ib.toArray := ⟨_, gb, rfl, _, rfl⟩
    rw [← e2, ← i1]
    exact ⟨SeqAt.in_listAt (isStrV x) hl (eqAt_strs i2) ⟨by simp, rfl⟩, SeqAt.notIn_listAt (isStrV x) hl (eqAt_strs i2) ⟨by simp, rfl⟩⟩
  | str y =>
    obtain ⟨c, rfl, e1⟩ := oneL_some e
    obtain ⟨u, rfl⟩ := rb
    have key : (!(Builtin.Str.occurrences (⟨y.toArray⟩ : Str) (⟨[c].toArray⟩ : Str) 0 (⟨y.toArray⟩ : Str).length 1).isEmpty) = inSigns c y := by
      rw [show (⟨[c].toArray⟩ : Str) = ⟨#[c]⟩ from rfl, StrLaws.found_one, occ_sign]
      by_cases h : c ∈ y <;> simp [h]
    rw [← Option.some.inj e1]
    exact ⟨P.in_str ⟨by rw [key], rfl⟩, P.notIn_str ⟨by rw [key], rfl⟩⟩
  | none => exact no_some e
  | bool => exact no_some e
  | int => exact no_some e
  | tup => exact no_some e
  | rng => exact no_some e
  | con => exact no_some e
  | clo => exact no_some e
  | bm => exact no_some e
end
end Rz
end Q5
section Q6
open PySem PySem.W PySem.Calls PyProof.Rows
namespace Rz
set_option linter.unusedVariables false

section
variable {X : Cx} {A : Around} {ρ : List Addr} {H : MH} {s : Shared}

theorem cmpV_ok {op : CmpOp} {a b : V} {ca cb : Value} {r : Bool} (O : Room A 0) (e : cmpV op a b H = some r) (S : SOK X ρ H s) (ra : VR X s.heap ρ a ca) (rb : VR X s.heap ρ b cb) :
    wpAny (Mx X) A (compareOp op ca cb) (fun c s' => c = .bool r ∧ s' = s) No s := by
  cases op with
  | Eq => exact cmp_eq O e S ra rb
  | NotEq =>
    obtain ⟨r', h1, rfl⟩ := Option.map_eq_some_iff.mp e
    exact cmp_ne O h1 S ra rb
  | Lt => obtain ⟨x, y, rfl, rfl, e⟩ := int2_some e; obtain ⟨t, rfl⟩ := ra; obtain ⟨u, rfl⟩ := rb; rw [← Option.some.inj e]; exact lt_int ⟨rfl, rfl⟩
  | LtE => obtain ⟨x, y, rfl, rfl, e⟩ := int2_some e; obtain ⟨t, rfl⟩ := ra; obtain ⟨u, rfl⟩ := rb; rw [← Option.some.inj e]; exact le_int ⟨rfl, rfl⟩
  | Gt => obtain ⟨x, y, rfl, rfl, e⟩ := int2_some e; obtain ⟨t, rfl⟩ := ra; obtain ⟨u, rfl⟩ := rb; rw [← Option.some.inj e]; exact gt_int ⟨rfl, rfl⟩
  | GtE => obtain ⟨x, y, rfl, rfl, e⟩ := int2_some e; obtain ⟨t, rfl⟩ := ra; obtain ⟨u, rfl⟩ := rb; rw [← Option.some.inj e]; exact ge_int ⟨rfl, rfl⟩
  | In => exact (cmp_in e S ra rb).1
  | NotIn =>
    obtain ⟨r', h1, rfl⟩ := Option.map_eq_some_iff.mp e
    exact (cmp_in h1 S ra rb).2
  | Is => exact no_some e
  | IsNot => exact no_some e

/-- a step that leaves the heap as it is -/
noncomputable def Tok (s s' : Shared) : Prop := ∃ k, s' = { s with toks := k }
theorem Tok.refl (s : Shared) : Tok s s := ⟨_, rfl⟩

theorem trueV_ok {a : V} {ca : Value} {r : Bool} (e : trueV a H = some r) (S : SOK X ρ H s) (ra : VR X s.heap ρ a ca) :
    wpAny (Mx X) A (truthy ca) (fun c s' => c = r ∧ Tok s s') No s := by
  cases a with
  | none => cases (show _ = _ from ra); cases e; exact truthy_none ⟨rfl, .refl _⟩
  | bool b => cases (show _ = _ from ra); cases e; exact wpAny_truthy_bool ⟨rfl, .refl _⟩
  | int i => obtain ⟨t, rfl⟩ := ra; cases e; exact truthy_int ⟨rfl, .refl _⟩
  | str x =>
    obtain ⟨h, rfl⟩ := if_some e
    obtain ⟨t, rfl⟩ := ra
    refine P.truthy_str (by rw [S_length]; lia) ⟨?_, _, rfl⟩
    rw [S_length]
    cases x <;> rfl
  | ref i =>
    obtain ⟨vs, ev, e1⟩ := onL_some e
    obtain ⟨h, rfl⟩ := if_some e1
    obtain ⟨l, it, n, rfl, _, g, r⟩ := S.listOf ev ra
    refine wpAny_truthy_list ⟨_, g, rfl, _, rfl⟩ (by rw [List.size_toArray, VRs.length r]; lia) ⟨?_, _, rfl⟩
    have := VRs.length r
    cases vs <;> cases it <;> first | rfl | exact nomatch this
  | tup => exact no_some e
  | rng => exact no_some e
  | con => exact no_some e
  | clo => exact no_some e
  | bm => exact no_some e

theorem sub_plain {slice : Expr} (hsl : isSlice slice = false) (o i : Value) : subscripted slice false o i = operate [o, i] (getItem o i) := by
  cases slice <;> first | rfl | exact nomatch (show true = false from hsl)
theorem small_nat {k : Nat} (h : k < 16777216) : (k : Int) < 2 ^ 63 := Int.lt_trans (Int.ofNat_lt.mpr h) (by decide)
theorem small_ge (k : Nat) : -(2 ^ 63 : Int) ≤ (k : Int) := Int.le_trans (by decide) (Int.natCast_nonneg k)
theorem idxV_ok {a b v : V} {ca cb : Value} {value slice : Expr} (e : idxV a b H = some v) (hsl : isSlice slice = false) (S : SOK X ρ H s) (ra : VR X s.heap ρ a ca) (rb : VR X s.heap ρ b cb) :
    wpAny (Mx X) A (subscriptTail value slice ca cb) (EP X ρ s.heap v H) No s := by
  have hs := sub_plain hsl
  have ifn : ∀ {p : Prop} [Decidable p] {x : Option V} {r : V}, (if p then x else none) = some r → p ∧ x = some r := fun {p _ x r} e => by
    by_cases h : p
    · rw [if_pos h] at e; exact ⟨h, e⟩
    · rw [if_neg h] at e; exact no_some e
  cases a with
  | ref i =>
    obtain ⟨k, rfl, e⟩ := onNat_some e
    obtain ⟨vs, ev, e1⟩ := onL_some e
    obtain ⟨hk, e2⟩ := ifn e1
    obtain ⟨l, it, n, rfl, _, g, r⟩ := S.listOf ev ra
    obtain ⟨t, rfl⟩ := rb
    obtain ⟨c, h1, h2⟩ := VRs.get r e2
    have hl : s.heap.IsList l it.toArray := ⟨_, g, rfl, _, rfl⟩
    exact tail_any hl.typeIs PySem.F.slot_list_getitem.lookup (wpAny_getItem_list hl (Int.natCast_nonneg _) (small_nat hk) (by simpa using h1) (EP.same S h2)) (hs _ _)
  | tup vs =>
    obtain ⟨k, rfl, e⟩ := onNat_some e
    obtain ⟨hk, e2⟩ := ifn e
    obtain ⟨l, it, rfl, ht, r⟩ := ra
    obtain ⟨t, rfl⟩ := rb
    obtain ⟨c, h1, h2⟩ := VRs.get r e2
    have hlt := (List.getElem?_eq_some_iff.mp h1).1
    refine item_tupleT ht (small_ge k) (small_nat hk) (j := k) ?_ h1 (EP.same S h2) (hs _ _)
    unfold seqIndex?
    have : ¬ ((k : Int) < 0) := Int.not_lt.mpr (Int.natCast_nonneg _)
    simp [hlt, this]
  | str x =>
    obtain ⟨k, rfl, e⟩ := onI_some e
    obtain ⟨hk, e1⟩ := ifn e
    obtain ⟨j, hj, e2⟩ := onL_some e1
    obtain ⟨c, hc, e3⟩ := onL_some e2
    obtain ⟨t, rfl⟩ := ra; obtain ⟨u, rfl⟩ := rb
    cases e3
    refine tail_any (typeIs_str _ _ _) PySem.F.slot_str_getitem.lookup (P.getItem_str (c := c) ?_ ?_ (EP.tok S (by exact Exists.intro _ rfl) _)) (hs _ _)
    · have h1 : ¬ (k < -(2 ^ 63 : Int)) := by (first | lia | omega)
      have h2 : ¬ (k ≥ (2 ^ 63 : Int)) := by (first | lia | omega)
      rw [decide_eq_false h1, decide_eq_false h2]; rfl
    · rw [S_length, hj]; simpa using hc
  | none => exact no_some e
  | bool => exact no_some e
  | int => exact no_some e
  | rng => exact no_some e
  | con => exact no_some e
  | clo => exact no_some e
  | bm => exact no_some e

theorem partOf_ok {v : V} {c : Value} {h : Heap} {p : Option Int} (e : partOf v = some p) (r : VR X h ρ v c) : IsPart c p ∧ ∃ q : Option (Int × PySem.Tok), c = partValue q ∧ q.map (·.1) = p := by
  cases v with
  | none => cases e; cases (show _ = _ from r); exact ⟨.none, none, rfl, rfl⟩
  | int i => cases e; obtain ⟨t, rfl⟩ := r; exact ⟨.int _ _, some (_, t), rfl, rfl⟩
  | bool => exact no_some e
  | str => exact no_some e
  | tup => exact no_some e
  | ref => exact no_some e
  | rng => exact no_some e
  | con => exact no_some e
  | clo => exact no_some e
  | bm => exact no_some e
theorem sub_slice {l u : Option Expr} {p : Pos} (b : Bool) (o i : Value) : subscripted (.Slice l u none p) b o i = operate [i, o] (getItem o i) := by cases b <;> rfl
theorem slcV_ok {a b d v : V} {H' : MH} {ca cb cd : Value} {value : Expr} {l u : Option Expr} {p : Pos} {sl : Addr} (e : slcV a b d H = some (v, H')) (S : SOK X ρ H s) (ra : VR X s.heap ρ a ca) (rb : VR X s.heap ρ b cb) (rd : VR X s.heap ρ d cd)
    (hs : s.heap.get? sl = some { cls := .type "slice", data := .fields #[cb, cd, .none] }) :
    wpAny (Mx X) A (subscriptTail value (.Slice l u none p) ca (.ref sl)) (EP X ρ s.heap v H') No s := by
  obtain ⟨lo, elo, e⟩ := onL_some e
  obtain ⟨hi, ehi, e1⟩ := onL_some e
  cases a with
  | str x =>
    obtain ⟨hsz, e2⟩ := if_some e1
    cases e2
    obtain ⟨_, q1, rfl, e1⟩ := partOf_ok elo rb
    obtain ⟨_, q2, rfl, e2⟩ := partOf_ok ehi rd
    obtain ⟨t, rfl⟩ := ra
    refine tail_any (typeIs_str _ _ _) PySem.F.slot_str_getitem.lookup (wpAny_getItem_str_slice (l := q1) (u := q2) (st := none) ⟨_, hs, rfl, rfl⟩ rfl ?_) (sub_slice _ _ _)
    unfold sliceMade slicePicked sliceS
    rw [e1, e2, S_length]
    simp only [Option.map_none, Option.getD_none, beq_self_eq_true, Bool.true_and]
    split
    · exact EP.same S (by exact Exists.intro _ rfl)
    · refine ⟨?_, EP.tok S (v := .str _) (Exists.intro _ (by simp; rfl)) _⟩
      show ((List.filterMap _ _).toArray).size ≤ _
      rw [List.size_toArray, sizeLine_eq]
      exact Nat.le_trans (List.length_filterMap_le _ _) (Nat.le_trans (sliceIndices_le lo hi _) hsz)
  | ref i =>
    obtain ⟨vs, ev, e2⟩ := onL_some e1
    obtain ⟨hsz, e3⟩ := if_some e2
    cases e3
    obtain ⟨p1, _⟩ := partOf_ok elo rb
    obtain ⟨p2, _⟩ := partOf_ok ehi rd
    obtain ⟨la, it, n, rfl, _, g, r⟩ := S.listOf ev ra
    have hl : s.heap.IsList la it.toArray := ⟨_, g, rfl, _, rfl⟩
    refine tail_any hl.typeIs PySem.F.slot_list_getitem.lookup (wpAny_getItem_list_slice (lo := lo) (hi := hi) (st := none) hl ⟨_, hs, rfl, rfl⟩ p1 p2 .none (by simp) ?_ (by rw [List.size_toArray, VRs.length r, sizeLine_eq]; exact hsz)) (sub_slice _ _ _)
    refine EP.list S (n := 0) (size_none _) (keep_push _ _) rfl rfl ?_ (VRs.filterMap r _)
    unfold slicePick
    simp only [List.size_toArray, VRs.length r, List.getElem?_toArray]
    exact Heap.get?_push_size _ rfl
  | none => exact no_some e1
  | bool => exact no_some e1
  | int => exact no_some e1
  | tup => exact no_some e1
  | rng => exact no_some e1
  | con => exact no_some e1
  | clo => exact no_some e1
  | bm => exact no_some e1

theorem setItem_exact {l : Addr} {items : List Value} {n : Nat} {k : Int} {t : PySem.Tok} {v : Value} {E : Value → Shared → Prop} {Q : Unit → Shared → Prop} (g : s.heap.get? l = some { cls := .type "list", data := .seq items.toArray n })
    (h0 : 0 ≤ k) (hk : k < items.length) (hfit : k < 2 ^ 63)
    (h : Q () { s with heap := s.heap.update l (Obj.mapSeq (·.setIfInBounds k.toNat v)) }) :
    wpAny (Mx X) A (setItem (.ref l) (.int k t) v) Q E s := by
  have hl : s.heap.IsList l items.toArray := ⟨_, g, rfl, _, rfl⟩
  unfold setItem
  refine wpAny_holding ?_
  refine wpAny_bind (wpAny_sequenceKey hl.typeIs (by decide) ?_)
  refine wpAny_bind (wpAny_callSpecial?_slot (name := Str.ofString "__setitem__") hl.typeIs PySem.slot_list_setitem
    (wpAny_call_entry PySem.slot_list_setitem hl.typeIs PySem.entry_list_setitem ?_ (PySem.args_list_setitem _ _ _)))
  show wpAny _ _ (Builtin.List.listSubscript? (.int k t) >>= _) _ _ s
  refine wpAny_bind (wpAny_listSubscript_int (fitsIndex_of h0 hfit) ?_)
  clear hfit
  obtain ⟨j, rfl⟩ := Int.eq_ofNat_of_zero_le h0
  have hj : j < items.toArray.size := by rw [List.size_toArray]; (first | lia | omega)
  show wpAny _ _ ((seqItemAt l j >>= fun r => pure (r.map (j, ·))) >>= _) _ _ s
  refine wpAny_bind (wpAny_bind (wpAny_seqItemAt g rfl (wpAny_pure ?_)))
  rw [show items.toArray[j]? = some items.toArray[j] from Array.getElem?_eq_getElem hj]
  show wpAny _ _ (setSeqItemAt l j v >>= _) _ _ s
  refine wpAny_bind (wpAny_setSeqItemAt g rfl ?_)
  first
    | exact wpAny_bind (wpAny_pure (wpAny_pure ⟨.none, rfl, wpAny_pure h⟩))
    | exact wpAny_pure ⟨.none, rfl, wpAny_pure h⟩

/-- an object of the ledger is turned at its place -/
theorem keepBut_update (h : Heap) (a : Addr) (f : Obj → Obj) : KeepBut a h (h.update a f) := fun b o n e => by rw [Heap.get?_update_ne _ _ _ _ n]; exact e
theorem get_mapSeq {h : Heap} {a : Addr} {items : Array Value} {n : Nat} (f : Array Value → Array Value) (g : h.get? a = some { cls := .type "list", data := .seq items n }) :
    ∃ m, (h.update a (Obj.mapSeq f)).get? a = some { cls := .type "list", data := .seq (f items) m } := ⟨_, Heap.get?_update_self _ g rfl⟩
theorem SOK.updList {G mg mb} (XO : XOK X G mg mb) (S : SOK X ρ H s) {i : Nat} {a : Addr} {items : List Value} {n : Nat} {vs : List V} (f : Array Value → Array Value) {ys : List Value} (e : ρ[i]? = some a)
    (g : s.heap.get? a = some { cls := .type "list", data := .seq items.toArray n }) (hf : f items.toArray = ys.toArray) (r : VRs X s.heap ρ vs ys) (tk : Nat) :
    SOK X ρ (H.set i (.list vs)) { s with heap := s.heap.update a (Obj.mapSeq f), toks := tk } ∧ Ext X ρ s.heap ρ (s.heap.update a (Obj.mapSeq f)) :=
  S.upd (s' := { s with heap := s.heap.update a (Obj.mapSeq f), toks := tk }) e (keepBut_update s.heap a _) (S.ne_code XO (List.mem_of_getElem? e)) (fun m => let ⟨k, z⟩ := get_mapSeq f g; ⟨ys, k, by rw [← hf]; exact z, r.mono m (List.prefix_refl _)⟩) rfl rfl

theorem setIV_ok {a b d : V} {H' : MH} {ca cb cd : Value} {G mg mb} (XO : XOK X G mg mb) (e : setIV a b d H = some H') (S : SOK X ρ H s) (ra : VR X s.heap ρ a ca) (rb : VR X s.heap ρ b cb) (rd : VR X s.heap ρ d cd) :
    wpAny (Mx X) A (setItem ca cb cd) (fun _ s' => SOK X ρ H' s' ∧ Ext X ρ s.heap ρ s'.heap) No s := by
  obtain ⟨i, rfl, e⟩ := onR_some e
  obtain ⟨k, rfl, e1⟩ := onNat_some e
  obtain ⟨vs, ev, e2⟩ := onL_some e1
  obtain ⟨hk, rfl⟩ := if_some e2
  obtain ⟨l, it, n, rfl, hi, g, r⟩ := S.listOf ev ra
  obtain ⟨t, rfl⟩ := rb
  have hk2 := hk.2
  have hk1 : k < it.length := by rw [VRs.length r]; exact hk.1
  refine setItem_exact g (Int.natCast_nonneg _) (Int.ofNat_lt.mpr hk1) (Int.lt_of_lt_of_le (Int.ofNat_lt.mpr hk2) (by decide)) ?_
  exact S.updList XO (ys := it.set k cd) _ hi g (by simp) (VRs.set rd r k) s.toks
end
end Rz
end Q6
section Q7
open PySem PySem.W PySem.Calls PyProof.Rows
namespace Rz
set_option linter.unusedVariables false
set_option maxRecDepth 100000

section
variable {X : Cx} {A : Around} {ρ : List Addr} {H : MH} {s : Shared}

theorem countSign_cnt (c : Nat) : ∀ l : List Nat, cnt c l = (countSign c l : Int)
  | [] => rfl
  | d :: r => by
    rw [cnt_cons, countSign_cnt c r]
    conv => rhs; unfold countSign
    rw [BT.beq_eq]
    by_cases h : d = c <;> simp [h]
    (first | lia | omega)
theorem first_spec (c : Nat) : ∀ (l : List Nat) (n k : Nat), firstSign c l n = some k → ∃ j, k = n + j ∧ l[j]? = some c ∧ ∀ i, i < j → l[i]? ≠ some c
  | [], _, _, e => by cases e
  | d :: r, n, k, e => by
    unfold firstSign at e
    rw [BT.beq_eq] at e
    by_cases h : d = c
    · rw [decide_eq_true h] at e
      cases e
      exact ⟨0, rfl, by rw [h]; rfl, fun i hi => absurd hi (Nat.not_lt_zero _)⟩
    · rw [decide_eq_false h] at e
      obtain ⟨j, h1, h2, h3⟩ := first_spec c r (n + 1) k e
      refine ⟨j + 1, by (first | lia | omega), by simpa using h2, fun i hi => ?_⟩
      cases i with
      | zero => simpa using h
      | succ i => simpa using h3 i (by (first | lia | omega))
theorem occ_first {l : List Nat} {c k : Nat} (e : firstSign c l 0 = some k) : ∃ rest, Builtin.Str.occurrences (⟨l.toArray⟩ : Str) ⟨#[c]⟩ 0 (⟨l.toArray⟩ : Str).length 1 = k :: rest := by
  obtain ⟨j, h1, h2, h3⟩ := first_spec c l 0 k e
  rw [Nat.zero_add] at h1; subst h1
  have at1 : ∀ i, StrLaws.At (⟨l.toArray⟩ : Str) ⟨#[c]⟩ (⟨l.toArray⟩ : Str).length i ↔ l[i]? = some c := fun i => by
    have := StrLaws.subAt_one (⟨l.toArray⟩ : Str) c i
    unfold StrLaws.At; simpa using this
  rcases StrLaws.occ_head (⟨l.toArray⟩ : Str) ⟨#[c]⟩ 1 (Nat.le_refl _) with ⟨_, n⟩ | ⟨i, r, q1, q2, q3⟩
  · exact absurd ((at1 _).mpr h2) (n _)
  · have : i = k := by
      rcases Nat.lt_trichotomy i k with q | q | q
      · exact absurd ((at1 _).mp q2) (h3 i q)
      · exact q
      · exact absurd ((at1 _).mpr h2) (q3 k q)
    exact ⟨r, by rw [q1, this]⟩

/-- what a built-in method's name is -/
structure NamesOK (X : Cx) : Prop where
  n1 : X.NM 1 = "append"
  n2 : X.NM 2 = "pop"
  n3 : X.NM 3 = "reverse"
  n4 : X.NM 4 = "lower"
  n5 : X.NM 5 = "join"
  n6 : X.NM 6 = "count"
  n7 : X.NM 7 = "index"
  n8 : X.NM 8 = "bit_length"

/-- the method that is looked up, then called with what was reckoned -/
structure BiOK (X : Cx) (A : Around) (m : Nat) (self : V) (vs : List V) (H2 : MH) (v : V) (H' : MH) : Prop where
  ok : ∃ id : String, (∀ (ρ : List Addr) (H1 : MH) (s1 : Shared) (c : Value) (pl : Sem Bool) (Q : Value × List Value → Shared → Prop), SOK X ρ H1 s1 → VR X s1.heap ρ self c → (∀ i, self = .ref i → ∃ l, H1[i]? = some (.list l)) →
      Q (.builtin id, [c]) s1 → wpAny (Mx X) A (getMethod c (X.NM m) pl) Q No s1) ∧
    (∀ (ρ : List Addr) (s2 : Shared) (c : Value) (cs : List Value), SOK X ρ H2 s2 → VR X s2.heap ρ self c → VRs X s2.heap ρ vs cs → wpAny (Mx X) A (call (.builtin id) (c :: cs)) (EP X ρ s2.heap v H') No s2)

theorem get_list {m : Nat} {i : Nat} {id name : String} (hn : X.NM m = Str.ofString name) (sl : Slot "list" (Str.ofString name) id) (ty : typeOf (.builtin id) = pure (.type "method_descriptor")) :
    ∀ (ρ : List Addr) (H1 : MH) (s1 : Shared) (c : Value) (pl : Sem Bool) (Q : Value × List Value → Shared → Prop), SOK X ρ H1 s1 → VR X s1.heap ρ (.ref i) c → (∀ j, V.ref i = .ref j → ∃ l, H1[j]? = some (.list l)) →
      Q (.builtin id, [c]) s1 → wpAny (Mx X) A (getMethod c (X.NM m) pl) Q No s1 := fun ρ H1 s1 c pl Q S r hl h => by
  obtain ⟨l, e⟩ := hl i rfl
  obtain ⟨a, e1, rfl⟩ := r
  obtain ⟨it, n, g, _⟩ := S.obj i _ a e e1
  rw [hn]
  exact getMethod_builtin ⟨_, g, rfl⟩ PySem.F.plainAttrs_list sl ty (fun b eb => by cases eb; exact ⟨_, g, rfl⟩) h
theorem get_str {m : Nat} {x : List Nat} {id name : String} (hn : X.NM m = Str.ofString name) (sl : Slot "str" (Str.ofString name) id) (ty : typeOf (.builtin id) = pure (.type "method_descriptor")) :
    ∀ (ρ : List Addr) (H1 : MH) (s1 : Shared) (c : Value) (pl : Sem Bool) (Q : Value × List Value → Shared → Prop), SOK X ρ H1 s1 → VR X s1.heap ρ (.str x) c → (∀ j, V.str x = .ref j → ∃ l, H1[j]? = some (.list l)) →
      Q (.builtin id, [c]) s1 → wpAny (Mx X) A (getMethod c (X.NM m) pl) Q No s1 := fun ρ H1 s1 c pl Q S r hl h => by
  obtain ⟨t, rfl⟩ := r
  rw [hn]
  exact getMethod_builtin (typeIs_str _ _ _) PySem.F.plainAttrs_str sl ty (fun b eb => by cases eb) h
theorem VRs.one {h : Heap} {v : V} {cs : List Value} (r : VRs X h ρ [v] cs) : ∃ c, cs = [c] ∧ VR X h ρ v c := by
  obtain ⟨c, q, rfl, e, rfl⟩ := r
  exact ⟨c, rfl, e⟩
theorem VRs.single {h : Heap} {v : V} {c : Value} (r : VR X h ρ v c) : VRs X h ρ [v] [c] := VRs.cons r rfl
theorem VRs.zero {h : Heap} {cs : List Value} (r : VRs X h ρ [] cs) : cs = [] := r
theorem VRs.tail {h : Heap} {v : V} {vs : List V} {c : Value} {cs : List Value} (r : VRs X h ρ (v :: vs) (c :: cs)) : VR X h ρ v c ∧ VRs X h ρ vs cs := by
  obtain ⟨c', q, e, h1, h2⟩ := r
  cases e
  exact ⟨h1, h2⟩
theorem strs_are {h : Heap} {vs : List V} {ss : List (List Nat)} {cs : List Value} (e : strsOf vs = some ss) (r : VRs X h ρ vs cs) : StrsAre cs (ss.map fun s => ⟨s.toArray⟩) := by
  induction vs generalizing ss cs with
  | nil => exact VRs.nil_e r (some_e (P := fun ss => StrsAre [] (ss.map fun s => ⟨s.toArray⟩)) e .nil)
  | cons v vs ih => exact VRs.cons_e r fun c cs a b => onS_e (P := fun v => VR X h ρ v c → StrsAre (c :: cs) (ss.map fun s => ⟨s.toArray⟩)) e (fun w e a => onL_e e fun q hq e => VR.str_e a fun t => some_e (P := fun ss => StrsAre _ (ss.map fun s => ⟨s.toArray⟩)) e (.cons _ t (ih hq b))) a
theorem ints_are {h : Heap} {vs : List V} {ns : List Int} {cs : List Value} (e : intsOf vs = some ns) (r : VRs X h ρ vs cs) : IntsAre cs ns := by
  induction vs generalizing ns cs with
  | nil => exact VRs.nil_e r (some_e (P := fun ns => IntsAre [] ns) e .nil)
  | cons v vs ih => exact VRs.cons_e r fun c cs a b => onI_e (P := fun v => VR X h ρ v c → IntsAre (c :: cs) ns) e (fun w e a => onL_e e fun q hq e => VR.int_e a fun t => some_e (P := fun ns => IntsAre _ ns) e (.cons _ t (ih hq b))) a
theorem join_emptyS : ∀ ss : List (List Nat), Str.join (⟨#[]⟩ : Str) (ss.map fun s => (⟨s.toArray⟩ : Str)) = ⟨(joinE ss).toArray⟩
  | [] => rfl
  | s :: r => by
    rw [List.map_cons, join_nil_cons, join_emptyS r, S_append]; rfl
theorem join_empty (ss : List (List Nat)) : Txt.join (⟨#[]⟩ : Str) (ss.map fun s => (⟨s.toArray⟩ : Str)) = ⟨(joinE ss).toArray⟩ :=
  (StrLaws.glued_eq_join _ _).trans (join_emptyS ss)
theorem join_len : ∀ ss : List (List Nat), ((ss.map fun s => (⟨s.toArray⟩ : Str)).map (·.length)).sum = (joinE ss).length
  | [] => rfl
  | s :: r => by
    rw [List.map_cons, List.map_cons, List.sum_cons, join_len r, S_length]
    show _ = (s ++ joinE r).length
    rw [List.length_append]

theorem bi1_ok {G mg mb} (XO : XOK X G mg mb) (N : NamesOK X) {self v : V} {vs : List V} {H2 H' : MH} (e : biM 1 self vs H2 = some (v, H')) (hA : A.handled = none) : BiOK X A 1 self vs H2 v H' := by
  refine onR_e e fun i e1 => ?_
  refine oneL_e e1 fun w e2 => ?_
  refine onL_e e2 fun ws ev e3 => ?_
  refine ifp_e e3 fun hs => ?_
  refine ⟨_, get_list N.n1 PySem.F.slot_list_append PySem.F.type_list_append, fun ρ s2 c cs S r rs => ?_⟩
  refine S.list_e ev r fun l it n hi g r => ?_
  refine VRs.one_e rs fun d rd => ?_
  have hz : it.toArray.size ≤ sizeLine := by rw [List.size_toArray, VRs.length r, sizeLine_eq]; (first | lia | omega)
  refine call_meets PySem.F.slot_list_append ⟨_, g, rfl⟩ PySem.F.entry_list_append (PySem.F.args_list_append_2 _ _) (list_append l it.toArray n d hz) ⟨g, ?_⟩
  obtain ⟨S', E'⟩ := S.updList XO (fun x => x.push d) (ys := it ++ [d]) hi g (by show it.toArray.push d = _; simp) (VRs.append r (VRs.single rd)) s2.toks
  exact ⟨ρ, E', S', rfl⟩
theorem bi2_ok {G mg mb} (XO : XOK X G mg mb) (N : NamesOK X) {self v : V} {vs : List V} {H2 H' : MH} (e : biM 2 self vs H2 = some (v, H')) (hA : A.handled = none) : BiOK X A 2 self vs H2 v H' := by
  refine onR_e e fun i e5 => ?_
  unfold popV at e5
  cases vs with
  | nil =>
    refine onL_e e5 fun vs ev e6 => ?_
    refine onL_e e6 fun w hw e7 => ?_
    refine ifp_e e7 fun hs => ?_
    refine ⟨_, get_list N.n2 PySem.F.slot_list_pop PySem.F.type_list_pop, fun ρ s2 c cs S r rs => ?_⟩
    refine S.list_e ev r fun l it n hi g r => ?_
    refine VRs.nil_e rs ?_
    have hl := VRs.length r
    obtain ⟨y, h1, h2⟩ := VRs.get r hw
    refine call_meets PySem.F.slot_list_pop ⟨_, g, rfl⟩ PySem.F.entry_list_pop (PySem.F.args_list_pop_1 _) (MeetsSeq.list_pop_last l it.toArray n y (by simpa [hl] using h1) (by rw [List.size_toArray, hl, sizeLine_eq]; (first | lia | omega))) ⟨g, ?_⟩
    have hf : it.toArray.eraseIdxIfInBounds (it.toArray.size - 1) = (it.take (vs.length - 1)).toArray := by
      rw [List.size_toArray, hl, List.eraseIdxIfInBounds_toArray, ← hl]
      congr 1
      have hz : it.length - 1 + 1 = it.length := by
        have := (List.getElem?_eq_some_iff.mp h1).1
        (first | lia | omega)
      rw [List.eraseIdx_eq_take_drop_succ, hz]; simp
    obtain ⟨S', E'⟩ := S.updList XO (fun xs => xs.eraseIdxIfInBounds (it.toArray.size - 1)) (ys := it.take (vs.length - 1)) hi g hf (VRs.take r _) s2.toks
    exact ⟨ρ, E', S', h2.mono (S.mono E') (List.prefix_refl _)⟩
  | cons a0 r0 =>
    refine nilL_e e5 fun e9 => ?_
    refine onI_e e9 fun k0 e10 => ?_
    refine onL_e e10 fun us ev e11 => ?_
    cases us with
    | nil => exact no_some e11
    | cons w vs =>
    obtain ⟨hz, e12⟩ := if_some (show (if k0 = 0 ∧ vs.length ≤ 16777214 then some (w, H2.set i (.list vs)) else none) = _ from e11)
    obtain ⟨rfl, hs⟩ := hz
    cases e12
    refine ⟨_, get_list N.n2 PySem.F.slot_list_pop PySem.F.type_list_pop, fun ρ s2 c cs S r rs => ?_⟩
    refine S.list_e ev r fun l it n hi g r => ?_
    refine VRs.one_e rs fun d rd => ?_
    refine VR.int_e rd fun t => ?_
    have hl := VRs.length r
    obtain ⟨y, it', rfl, h1, h2⟩ := r
    refine call_meets PySem.F.slot_list_pop ⟨_, g, rfl⟩ PySem.F.entry_list_pop (PySem.F.args_list_pop_2 _ _) (MeetsSeq.list_pop_at l (y :: it').toArray n _ t 0 y (by decide) (by simp [seqIndex?]) (by simp) (by rw [List.size_toArray, hl, sizeLine_eq, List.length_cons]; (first | lia | omega))) ⟨g, ?_⟩
    have hf : (y :: it').toArray.eraseIdxIfInBounds 0 = it'.toArray := by simp
    obtain ⟨S', E'⟩ := S.updList XO (fun xs => xs.eraseIdxIfInBounds 0) (ys := it') hi g hf h2 s2.toks
    exact ⟨ρ, E', S', h1.mono (S.mono E') (List.prefix_refl _)⟩
theorem bi3_ok {G mg mb} (XO : XOK X G mg mb) (N : NamesOK X) {self v : V} {vs : List V} {H2 H' : MH} (e : biM 3 self vs H2 = some (v, H')) (hA : A.handled = none) : BiOK X A 3 self vs H2 v H' := by
  refine onR_e e fun i e13 => ?_
  refine nilL_e e13 fun e14 => ?_
  refine onL_e e14 fun vs ev e15 => ?_
  refine ifp_e e15 fun hs => ?_
  refine ⟨_, get_list N.n3 PySem.F.slot_list_reverse PySem.F.type_list_reverse, fun ρ s2 c cs S r rs => ?_⟩
  refine S.list_e ev r fun l it n hi g r => ?_
  refine VRs.nil_e rs ?_
  refine call_meets PySem.F.slot_list_reverse ⟨_, g, rfl⟩ PySem.F.entry_list_reverse (PySem.F.args_list_reverse_1 _) (AutoListH.list_reverse_list_0 l it.toArray n (by rw [List.size_toArray, VRs.length r, sizeLine_eq]; (first | lia | omega))) ⟨g, ?_⟩
  obtain ⟨S', E'⟩ := S.updList XO (fun x => x.reverse) (ys := it.reverse) hi g (by simp) (VRs.reverse r) s2.toks
  exact ⟨ρ, E', S', rfl⟩
theorem bi4_ok {G mg mb} (XO : XOK X G mg mb) (N : NamesOK X) {self v : V} {vs : List V} {H2 H' : MH} (e : biM 4 self vs H2 = some (v, H')) (hA : A.handled = none) : BiOK X A 4 self vs H2 v H' := by
  refine onS_e e fun s0 e17 => ?_
  refine oneL_e e17 fun c e18 => ?_
  refine nilL_e e18 fun e19 => ?_
  refine ifp_e e19 fun hc => ?_
  refine ⟨_, get_str N.n4 PySem.F.slot_str_lower PySem.F.type_str_lower, fun ρ s2 d cs S r rs => ?_⟩
  refine VR.str_e r fun t => ?_
  refine VRs.nil_e rs ?_
  have hl : Txt.lower (⟨[c].toArray⟩ : Str) = ⟨[c].toArray⟩ := by
    unfold blankTab at hc
    rw [BT.beq_eq, BT.beq_eq] at hc
    by_cases h : c = 32
    · subst h; decide +kernel
    · rw [decide_eq_false h] at hc
      have h9 : c = 9 := of_decide_eq_true hc
      subst h9; decide +kernel
  exact SC.lower (by rw [hl]; rfl) (EP.tok S (v := .str [c]) (VR.strAt (t := _) (by rw [hl])) _)
theorem bi5_ok {G mg mb} (XO : XOK X G mg mb) (N : NamesOK X) {self v : V} {vs : List V} {H2 H' : MH} (e : biM 5 self vs H2 = some (v, H')) (hA : A.handled = none) : BiOK X A 5 self vs H2 v H' := by
  refine onS_e e fun s0 e21 => ?_
  refine nilL_e e21 fun e22 => ?_
  refine oneL_e e22 fun a0 e23 => ?_
  refine onR_e e23 fun i e24 => ?_
  refine onL_e e24 fun vs ev e25 => ?_
  refine onL_e e25 fun ss hss e26 => ?_
  refine ifp_e e26 fun hs => ?_
  refine ⟨_, get_str N.n5 PySem.F.slot_str_join PySem.F.type_str_join, fun ρ s2 c cs S r rs => ?_⟩
  refine VRs.one_e rs fun d rd => ?_
  refine S.list_e ev rd fun l it n hi g rd => ?_
  refine VR.str_e r fun t => ?_
  refine join_list (ys := ss.map fun s => ⟨s.toArray⟩) ⟨_, g, rfl, _, rfl⟩ (strs_are hss rd) ?_ fun t' k => EP.tok S ?_ _
  · rw [join_len, show (⟨[].toArray⟩ : Str).length = 0 from rfl, Nat.mul_zero]; exact hs
  · exact Exists.intro t' (by rw [show (⟨[].toArray⟩ : Str) = ⟨#[]⟩ from rfl, join_empty])
theorem bi6_ok {G mg mb} (XO : XOK X G mg mb) (N : NamesOK X) {self v : V} {vs : List V} {H2 H' : MH} (e : biM 6 self vs H2 = some (v, H')) (hA : A.handled = none) : BiOK X A 6 self vs H2 v H' := by
  refine onS_e e fun s0 e28 => ?_
  refine oneL_e e28 fun a0 e29 => ?_
  refine onS_e e29 fun t0 e30 => ?_
  refine oneL_e e30 fun c0 e31 => ?_
  cases e31
  refine ⟨_, get_str N.n6 PySem.F.slot_str_count PySem.F.type_str_count, fun ρ s2 c cs S r rs => ?_⟩
  refine VRs.one_e rs fun d rd => ?_
  refine VR.str_e r fun t => ?_
  refine VR.str_e rd fun u => ?_
  refine SC.count (EP.tok S ?_ _)
  refine Exists.intro s2.toks ?_
  rw [show (⟨[_].toArray⟩ : Str) = ⟨#[_]⟩ from rfl, count_cnt, countSign_cnt]
theorem bi7_ok {G mg mb} (XO : XOK X G mg mb) (N : NamesOK X) {self v : V} {vs : List V} {H2 H' : MH} (e : biM 7 self vs H2 = some (v, H')) (hA : A.handled = none) : BiOK X A 7 self vs H2 v H' := by
  refine onS_e e fun s0 e32 => ?_
  refine oneL_e e32 fun a0 e33 => ?_
  refine onS_e e33 fun t0 e34 => ?_
  refine oneL_e e34 fun c0 e35 => ?_
  refine onL_e e35 fun k hk e36 => ?_
  cases e36
  refine ⟨_, get_str N.n7 PySem.F.slot_str_index PySem.F.type_str_index, fun ρ s2 c cs S r rs => ?_⟩
  refine VRs.one_e rs fun d rd => ?_
  refine VR.str_e r fun t => ?_
  refine VR.str_e rd fun u => ?_
  obtain ⟨rest, ho⟩ := occ_first hk
  exact SC.index ho (EP.tok S VR.int _)
theorem bi8_ok {G mg mb} (XO : XOK X G mg mb) (N : NamesOK X) {self v : V} {vs : List V} {H2 H' : MH} (e : biM 8 self vs H2 = some (v, H')) (hA : A.handled = none) : BiOK X A 8 self vs H2 v H' := by
  refine onI_e e fun a0 e37 => ?_
  refine nilL_e e37 fun e38 => ?_
  cases e38
  refine ⟨"int.bit_length", fun ρ H1 s1 c pl Q S r _ h => ?_, fun ρ s2 c cs S r rs => ?_⟩
  · revert h
    refine VR.int_e r fun t h => ?_
    rw [N.n8]
    exact getMethod_int_bit_length h
  · refine VRs.nil_e rs ?_
    refine VR.int_e r fun t => ?_
    exact call_int_bit_length (EP.tok S VR.int _)
theorem biM_ok {G mg mb} (XO : XOK X G mg mb) (N : NamesOK X) {m : Nat} {self v : V} {vs : List V} {H2 H' : MH} (e : biM m self vs H2 = some (v, H')) (hA : A.handled = none) : BiOK X A m self vs H2 v H' := by
  cases h1 : Nat.beq m 1 with
  | true =>
    obtain rfl := Nat.eq_of_beq_eq_true h1
    exact bi1_ok XO N e hA
  | false =>
  cases h2 : Nat.beq m 2 with
  | true =>
    obtain rfl := Nat.eq_of_beq_eq_true h2
    exact bi2_ok XO N e hA
  | false =>
  cases h3 : Nat.beq m 3 with
  | true =>
    obtain rfl := Nat.eq_of_beq_eq_true h3
    exact bi3_ok XO N e hA
  | false =>
  cases h4 : Nat.beq m 4 with
  | true =>
    obtain rfl := Nat.eq_of_beq_eq_true h4
    exact bi4_ok XO N e hA
  | false =>
  cases h5 : Nat.beq m 5 with
  | true =>
    obtain rfl := Nat.eq_of_beq_eq_true h5
    exact bi5_ok XO N e hA
  | false =>
  cases h6 : Nat.beq m 6 with
  | true =>
    obtain rfl := Nat.eq_of_beq_eq_true h6
    exact bi6_ok XO N e hA
  | false =>
  cases h7 : Nat.beq m 7 with
  | true =>
    obtain rfl := Nat.eq_of_beq_eq_true h7
    exact bi7_ok XO N e hA
  | false =>
  cases h8 : Nat.beq m 8 with
  | true =>
    obtain rfl := Nat.eq_of_beq_eq_true h8
    exact bi8_ok XO N e hA
  | false =>
  unfold biM at e
  rw [h1, h2, h3, h4, h5, h6, h7, h8] at e
  exact no_some e
end
end Rz
end Q7
section Q8
open PySem PySem.W PySem.Calls PyProof.Rows
namespace Rz
set_option linter.unusedVariables false
set_option maxRecDepth 100000

section
variable {X : Cx} {A : Around} {ρ : List Addr} {H : MH} {s : Shared}

theorem foldl_min_spec : ∀ (ns : List Int) (n : Int), (ns.foldl min n ∈ n :: ns) ∧ ∀ a ∈ n :: ns, ns.foldl min n ≤ a
  | [], n => ⟨by simp, fun a m => by simp at m; rw [m]; exact Int.le_refl _⟩
  | b :: r, n => by
    obtain ⟨h1, h2⟩ := foldl_min_spec r (min n b)
    rw [List.foldl_cons]
    refine ⟨?_, fun a m => ?_⟩
    · rcases List.mem_cons.mp h1 with h | h
      · rw [h]
        by_cases q : n ≤ b
        · rw [Int.min_eq_left q]; simp
        · rw [Int.min_eq_right (by (first | lia | omega))]; simp
      · simp [h]
    · have hm := h2 (min n b) (by simp)
      rcases List.mem_cons.mp m with rfl | m
      · exact Int.le_trans hm (Int.min_le_left _ _)
      · rcases List.mem_cons.mp m with rfl | m
        · exact Int.le_trans hm (Int.min_le_right _ _)
        · exact h2 a (by simp [m])
theorem foldl_max_spec : ∀ (ns : List Int) (n : Int), (ns.foldl max n ∈ n :: ns) ∧ ∀ a ∈ n :: ns, a ≤ ns.foldl max n
  | [], n => ⟨by simp, fun a m => by simp at m; rw [m]; exact Int.le_refl _⟩
  | b :: r, n => by
    obtain ⟨h1, h2⟩ := foldl_max_spec r (max n b)
    rw [List.foldl_cons]
    refine ⟨?_, fun a m => ?_⟩
    · rcases List.mem_cons.mp h1 with h | h
      · rw [h]
        by_cases q : n ≤ b
        · rw [Int.max_eq_right q]; simp
        · rw [Int.max_eq_left (by (first | lia | omega))]; simp
      · simp [h]
    · have hm := h2 (max n b) (by simp)
      rcases List.mem_cons.mp m with rfl | m
      · exact Int.le_trans (Int.le_max_left _ _) hm
      · rcases List.mem_cons.mp m with rfl | m
        · exact Int.le_trans (Int.le_max_right _ _) hm
        · exact h2 a (by simp [m])

theorem EP.tup2 (S : SOK X ρ H s) {s' : Shared} {a : Addr} {vs : List V} {items : List Value} (k : Keep s.heap s'.heap) (g : s'.gens = s.gens) (o : s'.os = s.os)
    (hl : IsTup s'.heap a items.toArray) (r : VRs X s.heap ρ vs items) : EP X ρ s.heap (.tup vs) H (.ref a) s' :=
  EP.grow S k g o (Exists.intro a ⟨items, rfl, hl, r.mono (fun b o e _ => k b o e) (List.prefix_refl _)⟩)

theorem signs_rel {h : Heap} {x : List Nat} {acc : Array Value} (I : ItemsOf (SignAt (⟨x.toArray⟩ : Str)) acc x.length) : VRs X h ρ (x.map fun c => V.str [c]) acc.toList := by
  have key : ∀ (l : List Nat) (cs : List Value), cs.length = l.length → (∀ (j : Nat) (v : Value), cs[j]? = some v → ∃ c u, l[j]? = some c ∧ v = .str ⟨#[c]⟩ u) → VRs X h ρ (l.map fun c => V.str [c]) cs := by
    intro l
    induction l with
    | nil => intro cs h1 _; exact List.length_eq_zero_iff.mp h1
    | cons c l ih =>
      intro cs h1 h2
      cases cs with
      | nil => cases h1
      | cons d cs =>
        obtain ⟨c', u, q1, rfl⟩ := h2 0 d rfl
        cases q1
        refine VRs.cons VR.str (ih cs (by simpa using h1) fun j v e => h2 (j + 1) v e)
  refine key x acc.toList (by rw [Array.length_toList]; exact I.1) fun j v e => ?_
  obtain ⟨c, u, h1, h2⟩ := I.2 j v (by rw [← Array.getElem?_toList]; exact e)
  exact ⟨c, u, by simpa using h1, h2⟩
theorem rng_rel {h : Heap} {a c : Int} : ∀ (n : Nat) {acc : Array Value} (I : ItemsOf (fun i v => ∃ t, v = .int (a + i * c) t) acc n), VRs X h ρ ((List.range n).map fun (k : Nat) => V.int (a + k * c)) acc.toList := by
  intro n acc I
  have key : ∀ (m k : Nat) (cs : List Value), cs.length = m → (∀ (j : Nat) (v : Value), cs[j]? = some v → ∃ t, v = .int (a + ((k + j : Nat) : Int) * c) t) → VRs X h ρ ((List.range' k m).map fun (k : Nat) => V.int (a + k * c)) cs := by
    intro m
    induction m with
    | zero => intro k cs h1 _; exact List.length_eq_zero_iff.mp h1
    | succ m ih =>
      intro k cs h1 h2
      cases cs with
      | nil => cases h1
      | cons d cs =>
        obtain ⟨t, rfl⟩ := h2 0 d rfl
        refine VRs.cons VR.int (ih (k + 1) cs (by simpa using h1) fun j v e => ?_)
        have := h2 (j + 1) v e
        rw [show k + 1 + j = k + (j + 1) by (first | lia | omega)]; exact this
  rw [List.range_eq_range']
  refine key n 0 acc.toList (by rw [Array.length_toList]; exact I.1) fun j v e => ?_
  obtain ⟨t, h1⟩ := I.2 j v (by rw [← Array.getElem?_toList]; exact e)
  exact ⟨t, by rw [Nat.zero_add]; exact h1⟩

theorem minmax {cs : List Value} {n : Int} {ns : List Int} {l : Addr} {k : Nat} (hA : A.handled = none) (S : SOK X ρ H s) (g : s.heap.get? l = some { cls := .type "list", data := .seq cs.toArray k }) (hi : IntsAre cs (n :: ns)) :
    wpAny (Mx X) A (call (.builtin "min") [.ref l]) (EP X ρ s.heap (.int (ns.foldl min n)) H) No s ∧ wpAny (Mx X) A (call (.builtin "max") [.ref l]) (EP X ρ s.heap (.int (ns.foldl max n)) H) No s := by
  obtain ⟨xs, hx⟩ := hi.allInts.items
  have hn := hi.numsOf
  have hsz : 0 < xs.size := by
    have := congrArg Array.size hx
    have hl := hi.length
    simp [intItems] at this
    rw [← this, hl]; simp
  have hl : s.heap.IsList l (intItems xs) := ⟨_, g, rfl, k, by rw [← hx]⟩
  have hnum : xs.toList.map (·.1) = n :: ns := by rw [← nums_intItems, ← hx, show (cs.toArray).toList = cs from rfl, hn]
  have hlen : (xs.toList.map (·.1)).length = xs.size := by simp
  refine ⟨min_intList hA hl hsz fun v h' tk hv hk => ?_, max_intList hA hl hsz fun v h' tk hv hk => ?_⟩
  · obtain ⟨t, rfl⟩ := intItems_at hv
    obtain ⟨h1, h2⟩ := argBest_lt (numAt xs) (xs.size - 1)
    refine EP.grow (s' := { s with heap := h', toks := tk }) S hk rfl rfl ?_
    refine VR.intAt (t := t) ?_
    congr 1
    obtain ⟨f1, f2⟩ := foldl_min_spec ns n
    rw [← hnum] at f1 f2
    apply Int.le_antisymm
    · obtain ⟨j, hj, e⟩ := mem_getD f1
      rw [← e, ← numAt_eq]
      exact h2 j (by (first | lia | omega))
    · refine f2 _ ?_
      rw [numAt_eq]
      exact getD_mem (by (first | lia | omega))
  · obtain ⟨t, rfl⟩ := intItems_at hv
    obtain ⟨h1, h2⟩ := argBest_gt (numAt xs) (xs.size - 1)
    refine EP.grow (s' := { s with heap := h', toks := tk }) S hk rfl rfl ?_
    refine VR.intAt (t := t) ?_
    congr 1
    obtain ⟨f1, f2⟩ := foldl_max_spec ns n
    rw [← hnum] at f1 f2
    apply Int.le_antisymm
    · refine f2 _ ?_
      rw [numAt_eq]
      exact getD_mem (by (first | lia | omega))
    · obtain ⟨j, hj, e⟩ := mem_getD f1
      rw [← e, ← numAt_eq]
      exact h2 j (by (first | lia | omega))

theorem sum_ok {cs : List Value} {ns : List Int} {l : Addr} {k : Nat} (hA : A.handled = none) (S : SOK X ρ H s) (g : s.heap.get? l = some { cls := .type "list", data := .seq cs.toArray k }) (hi : IntsAre cs ns) :
    wpAny (Mx X) A (call (.builtin "sum") [.ref l]) (EP X ρ s.heap (.int ns.sum) H) No s := by
  obtain ⟨xs, hx⟩ := hi.allInts.items
  have hl : s.heap.IsList l (intItems xs) := ⟨_, g, rfl, k, by rw [← hx]⟩
  have hnum : xs.toList.map (·.1) = ns := by rw [← nums_intItems, ← hx, show (cs.toArray).toList = cs from rfl, hi.numsOf]
  refine sum_intListG hA hl fun h' tk t' hk => ?_
  refine EP.grow (s' := { s with heap := h', toks := tk }) S hk rfl rfl ?_
  refine VR.intAt (t := t') ?_
  rw [preSum_eq, List.take_of_length_le (by simp), hnum]


theorem mem_insertS (x : List Nat) : ∀ l : List (List Nat), (insertS x l).Perm (x :: l)
  | [] => .refl _
  | y :: r => by
    unfold insertS
    split
    · exact ((mem_insertS x r).cons y).trans (.swap _ _ _)
    · exact .refl _
theorem sortS_perm : ∀ l : List (List Nat), (sortS l).Perm l
  | [] => .refl _
  | x :: r => by
    unfold sortS
    exact (mem_insertS x (sortS r)).trans ((sortS_perm r).cons x)
noncomputable abbrev leS (a b : List Nat) : Prop := Spec.ltCps b a = false
theorem leS_iff {a b : List Nat} : leS a b ↔ a ≤ b := by
  unfold leS; rw [ltCps_eq]; simp only [decide_eq_false_iff_not]; exact Iff.rfl
theorem leS_trans {a b c : List Nat} (h1 : leS a b) (h2 : leS b c) : leS a c := leS_iff.mpr (List.le_trans (leS_iff.mp h1) (leS_iff.mp h2))
theorem leS_of_lt {a b : List Nat} (h : Spec.ltCps a b = true) : leS a b := by
  rw [leS_iff]
  rw [ltCps_eq, decide_eq_true_eq] at h
  exact List.le_of_lt h
theorem insertS_sorted (x : List Nat) : ∀ l : List (List Nat), l.Pairwise leS → (insertS x l).Pairwise leS
  | [], _ => List.pairwise_singleton _ _
  | y :: r, h => by
    obtain ⟨h1, h2⟩ := List.pairwise_cons.mp h
    unfold insertS
    split
    · rename_i q
      refine .cons (fun a m => ?_) (insertS_sorted x r h2)
      rcases List.mem_cons.mp ((mem_insertS x r).mem_iff.mp m) with rfl | m
      · exact leS_of_lt q
      · exact h1 a m
    · rename_i q
      have q' : leS x y := by simpa using q
      refine .cons (fun a m => ?_) h
      rcases List.mem_cons.mp m with rfl | m
      · exact q'
      · exact leS_trans q' (h1 a m)
theorem sortS_sorted : ∀ l : List (List Nat), (sortS l).Pairwise leS
  | [] => .nil
  | x :: r => by unfold sortS; exact insertS_sorted x _ (sortS_sorted r)
theorem rising_pairwise : ∀ (l : List Str) (p : Str), risingS p l = true → (∀ a ∈ l.map (·.cps.toList), leS p.cps.toList a) ∧ (l.map (·.cps.toList)).Pairwise leS
  | [], _, _ => ⟨by simp, .nil⟩
  | x :: r, p, h => by
    unfold risingS at h
    rw [Bool.and_eq_true] at h
    obtain ⟨h1, h2⟩ := h
    obtain ⟨k1, k2⟩ := rising_pairwise r x h2
    have q : leS p.cps.toList x.cps.toList := by simpa using h1
    refine ⟨fun a m => ?_, ?_⟩
    · rw [List.map_cons] at m
      rcases List.mem_cons.mp m with rfl | m
      · exact q
      · exact leS_trans q (k1 a m)
    · rw [List.map_cons]; exact .cons k1 k2
theorem sortedS_unique {ss' : List Str} {ss : List (List Nat)} (p : ss'.Perm (ss.map fun s => ⟨s.toArray⟩)) (h : sortedS ss' = true) : ss'.map (·.cps.toList) = sortS ss := by
  have p' : (ss'.map (·.cps.toList)).Perm (sortS ss) := by
    refine ((p.map _).trans ?_).trans (sortS_perm ss).symm
    rw [List.map_map]
    have : ((fun x : Str => x.cps.toList) ∘ fun s : List Nat => (⟨s.toArray⟩ : Str)) = id := by funext x; rfl
    rw [this, List.map_id]
  refine List.Perm.eq_of_pairwise (le := leS) (fun a b _ _ h1 h2 => ?_) ?_ (sortS_sorted ss) p'
  · exact List.le_antisymm (leS_iff.mp h1) (leS_iff.mp h2)
  · cases ss' with
    | nil => exact .nil
    | cons x r => rw [List.map_cons]; exact .cons (rising_pairwise r x h).1 (rising_pairwise r x h).2
theorem strs_rel {h : Heap} {cs : List Value} {ss : List Str} (r : StrsAre cs ss) : VRs X h ρ ((ss.map (·.cps.toList)).map V.str) cs := by
  induction r with
  | nil => rfl
  | cons y t r ih => exact VRs.cons VR.str ih
theorem size1_none (h : Heap) : h.get? (h.objs.size + 1) = none := by
  cases q : h.get? (h.objs.size + 1) with
  | none => rfl
  | some o => exact absurd (Heap.lt_size q) (Nat.not_lt.mpr (Nat.le_succ _))
theorem rangeSize_nonneg (a b c : Int) : 0 ≤ Builtin.Range.rangeSize a b c := by
  unfold Builtin.Range.rangeSize
  split
  · split
    · have := Int.ediv_nonneg (show 0 ≤ b - a - 1 by (first | lia | omega)) (show 0 ≤ c by (first | lia | omega))
      (first | lia | omega)
    · exact Int.le_refl _
  · split
    · have := Int.ediv_nonneg (show 0 ≤ a - b - 1 by (first | lia | omega)) (show 0 ≤ -c by (first | lia | omega))
      (first | lia | omega)
    · exact Int.le_refl _
@[elab_as_elim] theorem ls1_e {vs : List V} {cs : List Value} {P : List Value → Prop} {α : Type} {r : α} {f : Nat → List V → Option α} (S : SOK X ρ H s) (e : (oneL vs fun v => onR v fun i => onL (listAt H i) fun ws => f i ws) = some r) (rs : VRs X s.heap ρ vs cs)
    (k : ∀ i ws l it n, f i ws = some r → ρ[i]? = some l → s.heap.get? l = some { cls := .type "list", data := .seq it.toArray n } → VRs X s.heap ρ ws it → P [.ref l]) : P cs := by
  revert rs
  exact oneL_e e fun v e => onR_e e fun i e rs => onL_e e fun ws ev e => VRs.one_e rs fun d rd => S.list_e (P := fun d => P [d]) ev rd fun l it n hi g r => k i ws l it n e hi g r
@[elab_as_elim] theorem ii_e {a b : V} {cs : List Value} {P : List Value → Prop} {α : Type} {r : α} {f : Int → Int → Option α} {h : Heap} (e : int2 a b f = some r) (rs : VRs X h ρ [a, b] cs)
    (k : ∀ x y t u, f x y = some r → P [.int x t, .int y u]) : P cs :=
  VRs.two_e rs fun c d a b => int2_r (P := fun c d => P [c, d]) e a b k
section
variable {vs : List V} {v : V} {H' : MH} {cs : List Value}
theorem pLen (e : primV .len vs H = some (v, H')) (S : SOK X ρ H s) (rs : VRs X s.heap ρ vs cs) : wpAny (Mx X) A (call (primVal .len) cs) (EP X ρ s.heap v H') No s := by
  revert rs
  refine oneL_e e fun w e rs => VRs.one_e rs fun d rd => ?_
  cases w <;> (try (exact no_some e))
  · exact ifp_e e fun h => VR.str_e rd fun t => len_str (by rw [S_length]; (first | lia | omega)) (EP.tok (v := .int _) S (VR.intAt (t := _) (by rw [S_length])) _)
  · refine ifp_e e fun h => ?_
    obtain ⟨a, it, rfl, ht, r⟩ := rd
    exact PyProof.Rows.len_tuple ht (by rw [List.size_toArray, VRs.length r]; (first | lia | omega)) (EP.tok (v := .int _) S (VR.intAt (t := _) (by rw [List.size_toArray, VRs.length r])) _)
  · exact onL_e e fun vs ev e => ifp_e e fun h => S.list_e ev rd fun l it n hi g r =>
      len_list ⟨_, g, rfl, _, rfl⟩ (by rw [List.size_toArray, VRs.length r]; (first | lia | omega)) (EP.tok (v := .int _) S (VR.intAt (t := _) (by rw [List.size_toArray, VRs.length r])) _)
theorem pDm (e : primV .divmod vs H = some (v, H')) (S : SOK X ρ H s) (rs : VRs X s.heap ρ vs cs) : wpAny (Mx X) A (call (primVal .divmod) cs) (EP X ρ s.heap v H') No s := by
  revert rs
  refine twoL_e e fun a b e rs => ii_e e rs fun x y t u e => ifp_e e fun h => ?_
  refine divmod_int h.1 ?_ (.inl h.2)
  exact EP.tup2 S (keep_push _ _) rfl rfl (items := [.int (Int.fdiv _ _) s.toks, .int (Int.fmod _ _) (s.toks + 1)]) ⟨_, Heap.get?_push_size _ rfl, rfl, 0, rfl⟩ (VRs.cons VR.int (VRs.cons VR.int rfl))
theorem pRev (e : primV .rev vs H = some (v, H')) (S : SOK X ρ H s) (rs : VRs X s.heap ρ vs cs) : wpAny (Mx X) A (call (primVal .rev) cs) (EP X ρ s.heap v H') No s := by
  refine ls1_e S e rs fun i ws l it n e hi g r => pair_e e (call_reversed_list ⟨_, g, rfl, _, rfl⟩ ?_)
  rw [show it.toArray.size = ws.length from by rw [List.size_toArray, VRs.length r]]
  obtain ⟨S', E'⟩ := S.alloc (s' := { s with heap := s.heap.push (revObj l ((ws.length : Int) - 1)) }) (o := .rit i ((ws.length : Int) - 1)) (keep_push _ _) (size_none _) ⟨l, pre_get (List.prefix_append ..) hi, _, Heap.get?_push_size _ rfl, rfl, rfl⟩ rfl rfl
  exact ⟨_, E', S', VR.ref (by rw [← S.len, List.getElem?_append_right (Nat.le_refl _)]; simp)⟩
theorem pRange (e : primV .range vs H = some (v, H')) (S : SOK X ρ H s) (rs : VRs X s.heap ρ vs cs) : wpAny (Mx X) A (call (primVal .range) cs) (EP X ρ s.heap v H') No s := by
  rcases vs with _ | ⟨a, _ | ⟨b, _ | ⟨c, r⟩⟩⟩
  · exact no_some e
  · revert rs
    have e : (onI a fun b => some (V.rng 0 b 1, H)) = some (v, H') := e
    exact onI_e e fun x e rs => pair_e e (VRs.one_e rs fun d rd => VR.int_e rd fun t => call_range_1 (EP.grow S (keep_push _ _) rfl rfl (VR.rngAt (Heap.get?_push_size _ rfl))))
  · have e : (int2 a b fun a b => some (V.rng a b 1, H)) = some (v, H') := e
    exact ii_e e rs fun x y t u e => pair_e e (call_range_2 (EP.grow S (keep_push _ _) rfl rfl (VR.rngAt (Heap.get?_push_size _ rfl))))
  · revert rs
    refine nilL_e (show nilL r _ = _ from e) fun e rs => VRs.cons_e rs fun c1 q ra rb => VRs.two_e rb fun c2 c3 rb rc => ?_
    refine int2_r e ra rb fun x y t u e => ?_
    revert rc
    exact onI_e e fun z e rc => VR.int_e rc fun w => ifp_e e fun h => call_range_3 h.1 (EP.grow S (keep_push _ _) rfl rfl (VR.rngAt (Heap.get?_push_size _ rfl))) (.inl (PyProof.noPylong_small h.2))
theorem pSum (hA : A.handled = none) (e : primV .sum vs H = some (v, H')) (S : SOK X ρ H s) (rs : VRs X s.heap ρ vs cs) : wpAny (Mx X) A (call (primVal .sum) cs) (EP X ρ s.heap v H') No s :=
  ls1_e S e rs fun i ws l it n e hi g r => onL_e e fun ns hn e => pair_e e (sum_ok hA S g (ints_are hn r))
theorem mm_int {x y : Int} {t u : PySem.Tok} {c : Prop} [Decidable c] {h : Heap} : VR X h ρ (.int (if c then x else y)) (if c then .int x t else .int y u) := by
  split <;> exact VR.int
theorem pMM {two fold : Int → Int → Int} {w : Value} (e : mmV two fold vs H = some (v, H')) (S : SOK X ρ H s) (rs : VRs X s.heap ρ vs cs)
    (k1 : ∀ {n ns l it k}, s.heap.get? l = some { cls := .type "list", data := .seq (it : List Value).toArray k } → IntsAre it (n :: ns) → wpAny (Mx X) A (call w [.ref l]) (EP X ρ s.heap (.int (ns.foldl fold n)) H) No s)
    (k2 : ∀ {x y t u}, wpAny (Mx X) A (call w [.int x t, .int y u]) (EP X ρ s.heap (.int (two x y)) H) No s) : wpAny (Mx X) A (call w cs) (EP X ρ s.heap v H') No s := by
  rcases vs with _ | ⟨a, _ | ⟨b, r⟩⟩
  · exact no_some e
  · refine ls1_e (f := fun i ws => onL (intsOf ws) fun ns => match ns with
      | n :: ns => some (V.int (ns.foldl fold n), H)
      | [] => none) S e rs fun i ws l it n e hi g r => onL_e e fun ms hn e => ?_
    cases ms with
    | nil => exact no_some e
    | cons m ns => exact pair_e e (k1 g (ints_are hn r))
  · revert rs
    exact nilL_e (show nilL r _ = _ from e) fun e rs => ii_e e rs fun x y t u e => pair_e e k2
theorem pSort (e : primV .sorted vs H = some (v, H')) (S : SOK X ρ H s) (rs : VRs X s.heap ρ vs cs) : wpAny (Mx X) A (call (primVal .sorted) cs) (EP X ρ s.heap v H') No s := by
  refine ls1_e S e rs fun i ws l it n e hi g r => onL_e e fun ss hn e => ifp_e e fun h => ?_
  refine sorted_strs (ss := ss.map fun s => ⟨s.toArray⟩) ⟨_, g, rfl, _, rfl⟩ (strs_are hn r) (by rw [(strs_are hn r).length, List.length_map]; exact h) fun out ss' a1 a2 a3 => ?_
  obtain ⟨e, he⟩ := sortedAll_at s.heap it out
  refine EP.list (s' := { s with heap := sortedAll s.heap it out }) (items := out.toList) S (size1_none _) (fun b o => sortedAll_old) rfl rfl he ?_
  rw [← sortedS_unique a2 a3]
  exact strs_rel a1
theorem pTup (e : primV .tuple vs H = some (v, H')) (S : SOK X ρ H s) (rs : VRs X s.heap ρ vs cs) : wpAny (Mx X) A (call (primVal .tuple) cs) (EP X ρ s.heap v H') No s :=
  ls1_e S e rs fun i ws l it n e hi g r => ifp_e e fun h => call_tuple_list ⟨_, g, rfl, _, rfl⟩ (fun h' k => EP.tup2 S (fun b o e => Heap.get?_push_of_some _ (k b o e)) rfl rfl ⟨_, Heap.get?_push_size _ rfl, rfl, 0, rfl⟩ r) (by rw [List.size_toArray, VRs.length r, sizeLine_eq]; exact Nat.le_of_lt_succ h)
theorem pList (hA : A.handled = none) (e : primV .list vs H = some (v, H')) (S : SOK X ρ H s) (rs : VRs X s.heap ρ vs cs) : wpAny (Mx X) A (call (primVal .list) cs) (EP X ρ s.heap v H') No s := by
  revert rs
  refine oneL_e e fun w e rs => VRs.one_e rs fun d rd => ?_
  cases w <;> (try (exact no_some e))
  · refine ifp_e e fun h => VR.str_e rd fun t => call_list_str hA _ t (fun h' tk acc c' k hl hI => ?_) (by simp [sizeLine_eq]; (first | lia | omega))
    exact EP.list (s' := { s with heap := h', toks := tk }) (items := acc.toList) S (size_none _) k rfl rfl hl (signs_rel (by simpa using hI))
  · refine ifp_e e fun h => ?_
    obtain ⟨r, t, u, w, rfl, hr⟩ := rd
    refine call_list_range hA hr h.1 (n := (Builtin.Range.rangeSize _ _ _).toNat) (by rw [Int.toNat_of_nonneg (rangeSize_nonneg _ _ _)]) (by have := rangeSize_nonneg; (first | lia | omega)) (fun h' tk acc c' k hl hI => ?_)
    exact EP.list (s' := { s with heap := h', toks := tk }) (items := acc.toList) S (size_none _) k rfl rfl hl (rng_rel _ hI)
end
theorem primV_ok {G mg mb} (XO : XOK X G mg mb) {p : Prim} {vs : List V} {v : V} {H' : MH} {cs : List Value} (hp : p ≠ .iter) (e : primV p vs H = some (v, H')) (hA : A.handled = none) (S : SOK X ρ H s) (rs : VRs X s.heap ρ vs cs) :
    wpAny (Mx X) A (call (primVal p) cs) (EP X ρ s.heap v H') No s := by
  cases p with
  | len => exact pLen e S rs
  | divmod => exact pDm e S rs
  | rev => exact pRev e S rs
  | range => exact pRange e S rs
  | iter => exact absurd rfl hp
  | sum => exact pSum hA e S rs
  | min => exact pMM e S rs (fun g r => (minmax hA S g r).1) (min_two_ints hA fun h' tk k => EP.grow (s' := { s with heap := h', toks := tk }) S k rfl rfl mm_int)
  | max => exact pMM e S rs (fun g r => (minmax hA S g r).2) (max_two_ints hA fun h' tk k => EP.grow (s' := { s with heap := h', toks := tk }) S k rfl rfl mm_int)
  | sorted => exact pSort e S rs
  | tuple => exact pTup e S rs
  | list => exact pList hA e S rs
end
end Rz
end Q8
section Q9
open PySem PySem.W PySem.Calls PyProof.Rows
namespace Rz
set_option linter.unusedVariables false
set_option maxRecDepth 100000

theorem no_no (e : Value) (s : Shared) (x : No e s) : No e s := x
/-- a call keeps to what the oracle tells -/
structure CallOK (X : Cx) (C : Call) (d : Nat) : Prop where
  run : ∀ {A : Around} {ρ H s f vs v H' cf cs}, C f vs H = some (v, H') → Room A d → SOK X ρ H s → VR X s.heap ρ f cf → VRs X s.heap ρ vs cs → wpAny (Mx X) A (call cf cs) (EP X ρ s.heap v H') No s
  keep : ∀ {A : Around} {ρ H s f vs r cf}, C f vs H = some r → Room A d → SOK X ρ H s → VR X s.heap ρ f cf → wpAny (Mx X) A (keeperOf cf) (fun _ s' => Tok s s') No s

/-- a heap that has turned into the mini heap `H'` -/
noncomputable def SP (X : Cx) (ρ : List Addr) (h : Heap) (H' : MH) (s' : Shared) : Prop := ∃ ρ', Ext X ρ h ρ' s'.heap ∧ SOK X ρ' H' s'

structure ObjOK (X : Cx) (G : Gl) : Prop where
  itr : ∀ {A : Around} {d ρ H s vs v H' cs}, primV .iter vs H = some (v, H') → Room A d → SOK X ρ H s → VRs X s.heap ρ vs cs → wpAny (Mx X) A (call (.builtin "iter") cs) (EP X ρ s.heap v H') No s
  att : ∀ {A : Around} {d ρ H s vo n v co}, attV G vo n H = some v → Room A d → SOK X ρ H s → VR X s.heap ρ vo co → wpAny (Mx X) A (getAttr co (X.NM n) true) (EP X ρ s.heap v H) No s
  set : ∀ {A : Around} {d ρ H s vo n v H' co c}, setAV G vo n v H = some H' → Room A d → SOK X ρ H s → VR X s.heap ρ vo co → VR X s.heap ρ v c → wpAny (Mx X) A (setAttr co (X.NM n) c) (fun _ s' => SP X ρ s.heap H' s') No s
  mth : ∀ {A : Around} {d ρ H s vo n f pre co} {pl : Sem Bool}, calleeV G vo n H = some (.val f pre) → Room A d → SOK X ρ H s → VR X s.heap ρ vo co →
    wpAny (Mx X) A (getMethod co (X.NM n) pl) (fun r s' => ∃ ρ', Ext X ρ s.heap ρ' s'.heap ∧ SOK X ρ' H s' ∧ VR X s'.heap ρ' f r.1 ∧ VRs X s'.heap ρ' pre r.2) No s

section
variable {X : Cx} {G : Gl} {C : Call} {d n : Nat} {NM : Nat → Str} {md : Md} {A : Around} {ρ : List Addr} {H : MH} {s : Shared} {env : Env} {fr : Fr}

noncomputable def EOK (X : Cx) (G : Gl) (C : Call) (d n : Nat) (md : Md) (e : E) : Prop := ∀ {x : Expr} {A : Around} {env : Env} {fr : Fr} {ρ : List Addr} {H H' : MH} {s : Shared} {v : V},
  mE X.NM md env.scope.names e x = true → fE G C n e fr H = some (v, H') → Room A d → SOK X ρ H s → FrR X md ρ s.heap env fr → wpAny (Mx X) A (eval x env) (EP X ρ s.heap v H') No s
/-- a truth -/
noncomputable def BP (X : Cx) (ρ : List Addr) (h : Heap) (b : Bool) (H' : MH) (c : Bool) (s' : Shared) : Prop := c = b ∧ SP X ρ h H' s'
noncomputable def TOK (X : Cx) (G : Gl) (C : Call) (d n : Nat) (md : Md) (t : T) : Prop := ∀ {x : Expr} {A : Around} {env : Env} {fr : Fr} {ρ : List Addr} {H H' : MH} {s : Shared} {b : Bool},
  mT X.NM md env.scope.names t x = true → fT G C n t fr H = some (b, H') → Room A d → SOK X ρ H s → FrR X md ρ s.heap env fr → wpAny (Mx X) A (isTrue x env (eval x env)) (BP X ρ s.heap b H') No s
noncomputable def LP (X : Cx) (ρ : List Addr) (h : Heap) (vs : List V) (H' : MH) (cs : List Value) (s' : Shared) : Prop := ∃ ρ', Ext X ρ h ρ' s'.heap ∧ SOK X ρ' H' s' ∧ VRs X s'.heap ρ' vs cs
noncomputable def LOK (X : Cx) (G : Gl) (C : Call) (d n : Nat) (md : Md) (es : Es) : Prop := ∀ {xs : List Expr} {pos : Pos} {A : Around} {env : Env} {fr : Fr} {ρ : List Addr} {H H' : MH} {s : Shared} {vs : List V},
  mL X.NM md env.scope.names es xs = true → (fL G C n es).1 fr H = some (vs, H') → Room A d → SOK X ρ H s → FrR X md ρ s.heap env fr → wpAny (Mx X) A (spliced (backTo pos (starEach xs env))) (LP X ρ s.heap vs H') No s
noncomputable def BOK (X : Cx) (G : Gl) (C : Call) (d n : Nat) (md : Md) (es : Es) : Prop := ∀ {xs : List Expr} {pos : Pos} {o : BoolOp} {A : Around} {env : Env} {fr : Fr} {ρ : List Addr} {h : Heap} {H H' : MH} {s : Shared} {v w : V} {x : Sem Value},
  mL X.NM md env.scope.names es xs = true → (fL G C n es).2 o w fr H = some (v, H') → Room A d → wpAny (Mx X) A x (fun c s' => ∃ ρ', Ext X ρ h ρ' s'.heap ∧ SOK X ρ' H s' ∧ VR X s'.heap ρ' w c ∧ FrR X md ρ' s'.heap env fr) No s →
    wpAny (Mx X) A (boolOp pos o (x :: evalEach xs env)) (EP X ρ h v H') No s
noncomputable def AOK (X : Cx) (G : Gl) (C : Call) (d n : Nat) (md : Md) (ts : Ts) : Prop := ∀ {xs : List Expr} {o : BoolOp} {A : Around} {env : Env} {fr : Fr} {ρ : List Addr} {H H' : MH} {s : Shared} {b : Bool},
  mA X.NM md env.scope.names ts xs = true → fA G C n ts o fr H = some (b, H') → Room A d → SOK X ρ H s → FrR X md ρ s.heap env fr → wpAny (Mx X) A (allTrue o xs env) (BP X ρ s.heap b H') No s

theorem Room.zero (R : Room A d) : Room A 0 := ⟨R.handled, by have := R.depth; (first | lia | omega), by have := R.units; (first | lia | omega)⟩
@[elab_as_elim] theorem tok_e {s s' : Shared} {P : Shared → Prop} (t : Tok s s') (k : ∀ n, P { s with toks := n }) : P s' := by
  obtain ⟨n, rfl⟩ := t
  exact k n
theorem Tok.sok {s s' : Shared} (t : Tok s s') (S : SOK X ρ H s) : SOK X ρ H s' ∧ s'.heap = s.heap := by obtain ⟨k, rfl⟩ := t; exact ⟨S.tok k, rfl⟩

/-- after an expression, the next -/
theorem ep_bind {Q : Value → Shared → Prop} {t : Sem Value} {v : V} {H1 : MH} (S : SOK X ρ H s) (F : FrR X md ρ s.heap env fr) (h : wpAny (Mx X) A t (EP X ρ s.heap v H1) No s)
    (k : ∀ c s1 ρ1, Ext X ρ s.heap ρ1 s1.heap → SOK X ρ1 H1 s1 → VR X s1.heap ρ1 v c → FrR X md ρ1 s1.heap env fr → (∀ w cw, VR X s.heap ρ w cw → VR X s1.heap ρ1 w cw) → Q c s1) : wpAny (Mx X) A t Q No s :=
  wpAny_mono h (fun c s1 p => Exists.elim p fun ρ1 q => k c s1 ρ1 q.1 q.2.1 q.2.2 (F.step S q.1) fun w cw r => r.mono (S.mono q.1) q.1.pre) no_no
theorem sp_bind {α : Type} {Q : α → Shared → Prop} {t : Sem α} {P : α → Prop} {H1 : MH} (S : SOK X ρ H s) (F : FrR X md ρ s.heap env fr) (h : wpAny (Mx X) A t (fun a s' => P a ∧ SP X ρ s.heap H1 s') No s)
    (k : ∀ a s1 ρ1, P a → Ext X ρ s.heap ρ1 s1.heap → SOK X ρ1 H1 s1 → FrR X md ρ1 s1.heap env fr → (∀ w cw, VR X s.heap ρ w cw → VR X s1.heap ρ1 w cw) → Q a s1) : wpAny (Mx X) A t Q No s :=
  wpAny_mono h (fun c s1 p => Exists.elim p.2 fun ρ1 q => k c s1 ρ1 p.1 q.1 q.2 (F.step S q.1) fun w cw r => r.mono (S.mono q.1) q.1.pre) no_no
theorem lp_bind {Q : List Value → Shared → Prop} {t : Sem (List Value)} {vs : List V} {H1 : MH} (S : SOK X ρ H s) (F : FrR X md ρ s.heap env fr) (h : wpAny (Mx X) A t (LP X ρ s.heap vs H1) No s)
    (k : ∀ cs s1 ρ1, Ext X ρ s.heap ρ1 s1.heap → SOK X ρ1 H1 s1 → VRs X s1.heap ρ1 vs cs → FrR X md ρ1 s1.heap env fr → (∀ w cw, VR X s.heap ρ w cw → VR X s1.heap ρ1 w cw) → Q cs s1) : wpAny (Mx X) A t Q No s :=
  wpAny_mono h (fun c s1 p => Exists.elim p fun ρ1 q => k c s1 ρ1 q.1 q.2.1 q.2.2 (F.step S q.1) fun w cw r => r.mono (S.mono q.1) q.1.pre) no_no
theorem ep_to {ρ1 : List Addr} {h1 h : Heap} {t : Sem Value} {v : V} {H1 : MH} (E : Ext X ρ h ρ1 h1) (k : wpAny (Mx X) A t (EP X ρ1 h1 v H1) No s) : wpAny (Mx X) A t (EP X ρ h v H1) No s :=
  wpAny_mono k (fun c s1 p => p.trans E) no_no
theorem SP.trans' {ρ1 : List Addr} {h h1 : Heap} {H1 : MH} (k : SP X ρ1 h1 H1 s) (E : Ext X ρ h ρ1 h1) : SP X ρ h H1 s := Exists.elim k fun ρ2 q => ⟨ρ2, E.trans q.1, q.2⟩
theorem bp_to {ρ1 : List Addr} {h1 h : Heap} {t : Sem Bool} {b : Bool} {H1 : MH} (E : Ext X ρ h ρ1 h1) (k : wpAny (Mx X) A t (BP X ρ1 h1 b H1) No s) : wpAny (Mx X) A t (BP X ρ h b H1) No s :=
  wpAny_mono k (fun c s1 p => ⟨p.1, p.2.trans' E⟩) no_no
theorem SP.same (S : SOK X ρ H s) : SP X ρ s.heap H s := ⟨ρ, Ext.refl, S⟩
theorem SP.ofTok {s' : Shared} (t : Tok s s') (S : SOK X ρ H s) : SP X ρ s.heap H s' := tok_e t fun k => ⟨ρ, Ext.refl, S.tok k⟩

theorem isK_spec {ns : Ns} {x : Str} {k : NameKind} (h : isK ns x k = true) : ns.lookup x = some k := by
  unfold isK at h
  cases e : ns.lookup x with
  | none => rw [e] at h; cases h
  | some j => rw [e] at h; exact congrArg some (of_decide_eq_true h)
theorem isCF_spec {ns : Ns} {x : Str} (h : isCF ns x = true) : ns.lookup x = some .cell ∨ ns.lookup x = some .free := by
  unfold isCF at h
  rw [Bool.or_eq_true] at h
  exact h.imp isK_spec isK_spec
theorem okN_spec {x : Str} (h : okN x = true) : (x == ("__debug__" : Str)) = false ∧ (x == ("__classdict__" : Str)) = false :=
  and_e h fun a b => ⟨neg_e a, neg_e b⟩
@[elab_as_elim] theorem nm_e {a b : Str} {P : Str → Prop} (m : (a == b) = true) (k : P a) : P b := eq_of_beq m ▸ k

theorem lit_ok {v : V} : EOK X G C d n md (.lit v) := by
  intro x A env fr ρ H H' s v' m e R S F
  refine xCon_e m fun c k p m => pair_e e ?_
  cases v <;> (try (exact nomatch (show false = true from m)))
  · exact cNon_e m (wpAny_Constant_none (EP.same S rfl))
  · exact cBoo_e m fun b m => wpAny_Constant_bool (EP.same S (by rw [eq_of_beq m]; rfl))
  · exact cInt_e m fun b m => wpAny_Constant_int (EP.tok S (by rw [of_decide_eq_true m]; exact VR.int) _)
  · exact cStr_e m fun b m => dec_e m (wpAny_Constant_str (EP.tok S VR.str _))
theorem loc_ok {i : Nat} : EOK X G C d n md (.loc i) := by
  intro x A env fr ρ H H' s v' m e R S F
  refine xNam_e m fun id p m => and_e m fun m m3 => and_e m fun m1 m2 => i_loc e fun w ev => ?_
  obtain ⟨mm, hn, hl⟩ := F.loc
  obtain ⟨c, h1, h2⟩ := hl _ _ ev
  exact wpAny_Name (wpAny_loadName_local F.kind (isK_spec m2) hn (nm_e (P := fun q => mm q = some c) m1 h1) (EP.same S h2)) (okN_spec m3).1
theorem cellIs (F : FrR X md ρ s.heap env fr) (S : SOK X ρ H s) {x i : Nat} {v : Option V} (e1 : lk fr.cel x = some i) (e2 : H[i]? = some (.cell v)) (k : isCF env.scope.names (X.NM x) = true) :
    ∃ a c, ρ[i]? = some a ∧ env.cells.lookup (X.NM x) = some a ∧ s.heap.IsCell a c ∧ OVR X s.heap ρ v c :=
  Exists.elim (F.cel x i e1 (isCF_spec k)) fun a q => Exists.elim (S.obj i _ a e2 q.1) fun c r => ⟨a, c, q.1, q.2, r.1, r.2⟩
theorem load_cel (F : FrR X md ρ s.heap env fr) (S : SOK X ρ H s) {x i : Nat} {v : V} (e1 : lk fr.cel x = some i) (e2 : H[i]? = some (.cell (some v))) (k : isCF env.scope.names (X.NM x) = true) (ok : okN (X.NM x) = true) :
    wpAny (Mx X) A (loadName env (X.NM x)) (EP X ρ s.heap v H) No s := by
  obtain ⟨a, c, h1, h2, h3, c', rfl, r⟩ := cellIs F S e1 e2 k
  exact (isCF_spec k).elim (fun q => wpAny_loadName_cell F.kind q h2 h3 (EP.same S r)) fun q => wpAny_loadName_free F.kind q h2 h3 (EP.same S r) (okN_spec ok).2
theorem cel_ok {i : Nat} : EOK X G C d n md (.cel i) := by
  intro x A env fr ρ H H' s v' m e R S F
  refine xNam_e m fun id p m => and_e m fun m m3 => and_e m fun m1 m2 => i_cel e fun w j ej ev => ?_
  revert m2 m3
  exact nm_e m1 fun m3 m2 => wpAny_Name (load_cel F S ej ev m2 m3) (okN_spec m3).1
theorem glb_load {mg mb} (XO : XOK X G mg mb) (S : SOK X ρ H s) (F : FrR X md ρ s.heap env fr) : s.heap.Ns env.globals mg ∧ s.heap.Ns env.builtins mb := by
  rw [F.glob, F.blt]
  exact ⟨Ns.step XO.g fun x e => S.base _ _ e XO.gT, Ns.step XO.b fun x e => S.base _ _ e XO.bT⟩
theorem glb_ok {mg mb} (XO : XOK X G mg mb) {i : Nat} : EOK X G C d n md (.glb i) := by
  intro x A env fr ρ H H' s v' m e R S F
  refine xNam_e m fun id p m => and_e m fun m m3 => and_e m fun m1 m2 => i_glb e fun w ev => ?_
  obtain ⟨c, h1, h2⟩ := XO.glb _ _ ev
  have g := glb_load XO S F
  rw [eq_of_beq m1] at h1
  exact Name_function_global F.kind (isK_spec m2) (h1.elim (fun h1 => loadGlobal_global g.1 h1 (EP.same S (h2 _ _))) fun h1 => loadGlobal_builtin g.1 h1.1 g.2 h1.2 (EP.same S (h2 _ _))) (okN_spec m3).1
/-- two expressions, one after the other -/
theorem ep2 {a b : E} {l r : Expr} {va vb : V} {h1 h2 : MH} {Q : Value → Value → Shared → Prop} (ha : EOK X G C d n md a) (hb : EOK X G C d n md b) (m1 : mE X.NM md env.scope.names a l = true) (m2 : mE X.NM md env.scope.names b r = true)
    (ea : fE G C n a fr H = some (va, h1)) (eb : fE G C n b fr h1 = some (vb, h2)) (R : Room A d) (S : SOK X ρ H s) (F : FrR X md ρ s.heap env fr)
    (k : ∀ c c2 s2 ρ2, Ext X ρ s.heap ρ2 s2.heap → SOK X ρ2 h2 s2 → VR X s2.heap ρ2 va c → VR X s2.heap ρ2 vb c2 → FrR X md ρ2 s2.heap env fr → Q c c2 s2) : wpAny (Mx X) A (eval l env) (fun c s1 => wpAny (Mx X) A (eval r env) (Q c) No s1) No s :=
  ep_bind S F (ha m1 ea R S F) fun c s1 ρ1 E1 S1 r1 F1 k1 => ep_bind S1 F1 (hb m2 eb R S1 F1) fun c2 s2 ρ2 E2 S2 r2 F2 k2 => k c c2 s2 ρ2 (E1.trans E2) S2 (k2 _ _ r1) r2 F2
theorem bin_ok {op : Operator} {a b : E} (ha : EOK X G C d n md a) (hb : EOK X G C d n md b) : EOK X G C d n md (.bin op a b) := by
  intro x A env fr ρ H H' s v' m e R S F
  exact xBin_e m fun _ _ _ _ m => and_e m fun m m2 => and_e m fun m0 m1 => dec_e m0 (i_bin e fun va h1 vb h2 ea eb e =>
    wpAny_BinOp (ep2 ha hb m1 m2 ea eb R S F fun c c2 s2 ρ2 E2 S2 r1 r2 F2 => ep_to E2 (binV_ok e S2 r1 r2)))
@[elab_as_elim] theorem uop_e {o o' : UnaryOp} {P : UnaryOp → Prop} (m : decide (o = o') = true) (k : P o') : P o := of_decide_eq_true m ▸ k
theorem neg_ok {a : E} (ha : EOK X G C d n md a) : EOK X G C d n md (.neg a) := by
  intro x A env fr ρ H H' s v' m e R S F
  exact xUn_e m fun _ _ _ m => and_e m fun m0 m1 => uop_e m0 (i_neg e fun i h1 ea =>
    wpAny_UnaryOp (ep_bind S F (ha m1 ea R S F) fun c s1 ρ1 E1 S1 r1 F1 k1 => VR.int_e r1 fun t => neg_int ((EP.tok S1 VR.int _).trans E1)))
theorem inv_ok {a : E} (ha : EOK X G C d n md a) : EOK X G C d n md (.inv a) := by
  intro x A env fr ρ H H' s v' m e R S F
  exact xUn_e m fun _ _ _ m => and_e m fun m0 m1 => uop_e m0 (i_inv e fun i h1 ea =>
    wpAny_UnaryOp (ep_bind S F (ha m1 ea R S F) fun c s1 ρ1 E1 S1 r1 F1 k1 => VR.int_e r1 fun t => invert_int ((EP.tok S1 VR.int _).trans E1)))
theorem VR.bool {h : Heap} {b : Bool} : VR X h ρ (.bool b) (.bool b) := rfl
theorem VRs.nil {h : Heap} : VRs X h ρ [] [] := rfl
@[elab_as_elim] theorem bt_e {c q : Bool} {s s' : Shared} {P : Bool → Shared → Prop} (h : c = q ∧ Tok s s') (k : ∀ n, P q { s with toks := n }) : P c s' := h.1 ▸ tok_e h.2 k
@[elab_as_elim] theorem bs_e {c q : Bool} {s s' : Shared} {P : Bool → Shared → Prop} (h : c = q ∧ s' = s) (k : P q s) : P c s' := by
  obtain ⟨rfl, rfl⟩ := h
  exact k
theorem not_ok {a : E} (ha : EOK X G C d n md a) : EOK X G C d n md (.not a) := by
  intro x A env fr ρ H H' s v' m e R S F
  exact xUn_e m fun _ _ _ m => and_e m fun m0 m1 => uop_e m0 (i_not e fun va h1 q ea er =>
    wpAny_UnaryOp (ep_bind S F (ha m1 ea R S F) fun c s1 ρ1 E1 S1 r1 F1 k1 => not_of (wpAny_mono (trueV_ok er S1 r1) (fun b s2 hb => bt_e (P := fun b s2 => EP X ρ s.heap _ _ (.bool (!b)) s2) hb fun n => (EP.tok S1 VR.bool _).trans E1) no_no)))
theorem not_set {op : CmpOp} {r : Expr} (h : isSet r = false) : behindInMarks op r = false := by
  cases r <;> first | rfl | exact nomatch (show true = false from h)
theorem mcmp_e {NM : Nat → Str} {ns : Ns} {op : CmpOp} {a b : E} {x : Expr} {P : Expr → Prop} (m : mE NM md ns (.cmp op a b) x = true) (k : ∀ l r p, isSet r = false → mE NM md ns a l = true → mE NM md ns b r = true → P (.Compare l [op] [r] p)) : P x :=
  xCmp_e m fun l ops rs p m => b1_e (P := fun ops => P (.Compare l ops rs p)) m fun o m => b1_e (P := fun rs => P (.Compare l [o] rs p)) m fun r m => and_e m fun m m3 => and_e m fun m m2 => and_e m fun m0 m1 => of_decide_eq_true m0 ▸ k l r p (neg_e m1) m2 m3
theorem cmp_ok {op : CmpOp} {a b : E} (ha : EOK X G C d n md a) (hb : EOK X G C d n md b) : EOK X G C d n md (.cmp op a b) := by
  intro x A env fr ρ H H' s v' m e R S F
  refine mcmp_e (P := fun x => wpAny (Mx X) A (eval x env) (EP X ρ s.heap v' H') No s) m fun l r p m0 m1 m2 => i_cmp e fun va h1 vb h2 q ea eb et => ?_
  exact wpAny_Compare1 (ep2 ha hb m1 m2 ea eb R S F fun c c2 s2 ρ2 E2 S2 r1 r2 F2 => wpAny_mono (cmpV_ok R.zero et S2 r1 r2) (fun c s3 h3 => by
    obtain ⟨rfl, rfl⟩ := h3
    exact (EP.same S2 VR.bool).trans E2) no_no) (not_set m0)
theorem tcmp_ok {op : CmpOp} {a b : E} (ha : EOK X G C d n md a) (hb : EOK X G C d n md b) : TOK X G C d n md (.cmp op a b) := by
  intro x A env fr ρ H H' s v' m e R S F
  refine mcmp_e (P := fun x => wpAny (Mx X) A (isTrue x env (eval x env)) (BP X ρ s.heap v' H') No s) m fun l r p m0 m1 m2 => i_tcmp e fun va h1 vb h2 q ea eb et => ?_
  exact wpAny_isTrue_Compare1 (ep2 ha hb m1 m2 ea eb R S F fun c c2 s2 ρ2 E2 S2 r1 r2 F2 => wpAny_mono (cmpV_ok R.zero et S2 r1 r2) (fun c s3 h3 => by
    obtain ⟨rfl, rfl⟩ := h3
    exact wpAny_truthy_bool ⟨rfl, (SP.same S2).trans' E2⟩) no_no) (not_set m0)
theorem tnot_ok {t : T} (ht : TOK X G C d n md t) : TOK X G C d n md (.not t) := by
  intro x A env fr ρ H H' s v' m e R S F
  exact xUn_e m fun _ _ _ m => and_e m fun m0 m1 => uop_e m0 (i_tnot e fun q h1 et =>
    wpAny_isTrue_Not (wpAny_mono (ht m1 et R S F) (fun c s1 h1 => ⟨congrArg (!·) h1.1, h1.2⟩) no_no))
theorem mval {NM : Nat → Str} {ns : Ns} {a : E} {x : Expr} (m : mT NM md ns (.val a) x = true) : isTest x = false ∧ mE NM md ns a x = true := and_e m fun m0 m1 => ⟨neg_e m0, m1⟩
theorem tval_ok {a : E} (ha : EOK X G C d n md a) : TOK X G C d n md (.val a) := by
  intro x A env fr ρ H H' s v' m e R S F
  refine i_tval e fun va h1 q ea er => wpAny_isTrue_value (ep_bind S F (ha (mval m).2 ea R S F) fun c s1 ρ1 E1 S1 r1 F1 k1 => ?_) ?_
  · exact wpAny_mono (trueV_ok er S1 r1) (fun b s2 hb => ⟨hb.1, (SP.ofTok hb.2 S1).trans' E1⟩) no_no
  · replace m := (mval m).1
    clear e F S R
    cases x <;> first | rfl | exact nomatch (show true = false from m) | (rename_i op _ _; cases op <;> first | rfl | exact nomatch (show true = false from m))
theorem bpT {t : T} {x : Expr} {b : Bool} {h1 : MH} {Q : Bool → Shared → Prop} (ht : TOK X G C d n md t) (m0 : mT X.NM md env.scope.names t x = true) (et : fT G C n t fr H = some (b, h1)) (R : Room A d) (S : SOK X ρ H s) (F : FrR X md ρ s.heap env fr)
    (f : ∀ s1 ρ1, Ext X ρ s.heap ρ1 s1.heap → SOK X ρ1 h1 s1 → FrR X md ρ1 s1.heap env fr → Q b s1) : wpAny (Mx X) A (isTrue x env (eval x env)) Q No s :=
  sp_bind (P := (· = b)) S F (ht m0 et R S F) fun c s1 ρ1 p E1 S1 F1 k1 => p ▸ f s1 ρ1 E1 S1 F1
theorem bp1 {t : T} {x : Expr} {h1 : MH} {Q1 Q2 : Shared → Prop} (ht : TOK X G C d n md t) (m0 : mT X.NM md env.scope.names t x = true) (et : fT G C n t fr H = some (true, h1)) (R : Room A d) (S : SOK X ρ H s) (F : FrR X md ρ s.heap env fr)
    (f : ∀ s1 ρ1, Ext X ρ s.heap ρ1 s1.heap → SOK X ρ1 h1 s1 → FrR X md ρ1 s1.heap env fr → Q1 s1) : wpAny (Mx X) A (isTrue x env (eval x env)) (fun c s1 => if c = true then Q1 s1 else Q2 s1) No s :=
  bpT ht m0 et R S F fun s1 ρ1 E S F => (if_pos rfl).symm ▸ (f s1 ρ1 E S F)
theorem bp0 {t : T} {x : Expr} {h1 : MH} {Q1 Q2 : Shared → Prop} (ht : TOK X G C d n md t) (m0 : mT X.NM md env.scope.names t x = true) (et : fT G C n t fr H = some (false, h1)) (R : Room A d) (S : SOK X ρ H s) (F : FrR X md ρ s.heap env fr)
    (f : ∀ s1 ρ1, Ext X ρ s.heap ρ1 s1.heap → SOK X ρ1 h1 s1 → FrR X md ρ1 s1.heap env fr → Q2 s1) : wpAny (Mx X) A (isTrue x env (eval x env)) (fun c s1 => if c = true then Q1 s1 else Q2 s1) No s :=
  bpT ht m0 et R S F fun s1 ρ1 E S F => (if_neg Bool.false_ne_true).symm ▸ (f s1 ρ1 E S F)
theorem tife_ok {t a b : T} (ht : TOK X G C d n md t) (ha : TOK X G C d n md a) (hb : TOK X G C d n md b) : TOK X G C d n md (.ife t a b) := by
  intro x A env fr ρ H H' s v' m e R S F
  refine xIf_e m fun _ _ _ _ m => and_e m fun m m2 => and_e m fun m0 m1 => ?_
  rw [arm_isTrue_IfExp]
  exact wpAny_bind (i_tife e (fun h1 et e => bpT ht m0 et R S F fun s1 ρ1 E1 S1 F1 => bp_to E1 (ha m1 e R S1 F1)) fun h1 et e => bpT ht m0 et R S F fun s1 ρ1 E1 S1 F1 => bp_to E1 (hb m2 e R S1 F1))
theorem ife_ok {t : T} {a b : E} (ht : TOK X G C d n md t) (ha : EOK X G C d n md a) (hb : EOK X G C d n md b) : EOK X G C d n md (.ife t a b) := by
  intro x A env fr ρ H H' s v' m e R S F
  refine xIf_e m fun _ _ _ _ m => and_e m fun m m2 => and_e m fun m0 m1 => ?_
  exact wpAny_IfExp (i_ife e (fun h1 et e => bp1 ht m0 et R S F fun s1 ρ1 E1 S1 F1 => ep_to E1 (ha m1 e R S1 F1)) fun h1 et e => bp0 ht m0 et R S F fun s1 ρ1 E1 S1 F1 => ep_to E1 (hb m2 e R S1 F1))
theorem anil_ok : AOK X G C d n md .nil := by
  intro xs o A env fr ρ H H' s b m e R S F
  refine b0_e m fun _ => some_e (P := fun r => wpAny (Mx X) A (allTrue o [] env) (BP X ρ s.heap r.1 r.2) No s) e ?_
  cases o
  · exact wpAny_allTrue_And_nil ⟨rfl, SP.same S⟩
  · exact wpAny_allTrue_Or_nil ⟨rfl, SP.same S⟩
theorem acons_ok {t : T} {ts : Ts} (ht : TOK X G C d n md t) (hts : AOK X G C d n md ts) : AOK X G C d n md (.cons t ts) := by
  intro xs o A env fr ρ H H' s b m e R S F
  refine bc_e m fun _ _ m => and_e m fun m0 m1 => ?_
  cases o
  · refine wpAny_allTrue_And_cons (i_acons e (fun c h1 et g e => ?_) fun c h1 et g => ?_)
    · cases (show c = true from g)
      exact bp1 ht m0 et R S F fun s1 ρ1 E1 S1 F1 => bp_to E1 (hts m1 e R S1 F1)
    · cases (show c = false from g)
      exact bp0 ht m0 et R S F fun s1 ρ1 E1 S1 F1 => ⟨rfl, (SP.same S1).trans' E1⟩
  · refine wpAny_allTrue_Or_cons (i_acons e (fun c h1 et g e => ?_) fun c h1 et g => ?_)
    · cases (neg_e g)
      exact bp0 ht m0 et R S F fun s1 ρ1 E1 S1 F1 => bp_to E1 (hts m1 e R S1 F1)
    · cases c with
      | false => exact nomatch (show true = false from g)
      | true => exact bp1 ht m0 et R S F fun s1 ρ1 E1 S1 F1 => ⟨rfl, (SP.same S1).trans' E1⟩
theorem tbop_ok {o : BoolOp} {ts : Ts} (ht : AOK X G C d n md ts) : TOK X G C d n md (.bop o ts) := by
  intro x A env fr ρ H H' s v' m e R S F
  exact xBop_e m fun _ _ _ m => and_e m fun m0 m1 => dec_e m0 (wpAny_isTrue_BoolOp (ht m1 e R S F))
theorem bnil_ok : BOK X G C d n md .nil := by
  intro xs pos o A env fr ρ h H H' s v w x m e R k
  exact b0_e m fun _ => pair_e e (wpAny_mono k (fun c s1 q => Exists.elim q fun ρ1 q => ⟨ρ1, q.1, q.2.1, q.2.2.1⟩) no_no)
theorem bcons_ok {a : E} {es : Es} (ha : EOK X G C d n md a) (hes : BOK X G C d n md es) : BOK X G C d n md (.cons a es) := by
  intro xs pos o A env fr ρ h H H' s v w x m e R k
  refine bc_e m fun y ys m => and_e m fun m m1 => and_e m fun _ m0 => ?_
  rw [arm_evalEach_cons]
  show wpAny _ _ (x >>= fun v => standAt pos >>= fun _ => holding [v] (truthy v) >>= fun t => _) _ _ _
  refine wpAny_bind (wpAny_mono k (fun c s1 q => Exists.elim q fun ρ1 q => ?_) no_no)
  obtain ⟨E1, S1, r1, F1⟩ := q
  refine wpAny_bind (wpAny_standAt (wpAny_bind (wpAny_holding ?_)))
  refine i_bcons e (fun q et g w' H1 ew e => ?_) fun q et g => ?_
  · refine wpAny_mono (trueV_ok et S1 r1) (fun b s2 hb => bt_e hb fun kk => ?_) no_no
    have S2 := S1.tok kk
    have go := ep_to E1 (hes (pos := pos) m1 e R (ep_bind S2 F1 (ha m0 ew R S2 F1) fun c2 s3 ρ2 E2 S2 r2 F2 k2 => ⟨ρ2, E2, S2, r2, F2⟩))
    cases o with
    | And => cases (show q = true from g); exact go
    | Or => cases (neg_e g); exact go
  · refine wpAny_mono (trueV_ok et S1 r1) (fun b s2 hb => bt_e hb fun kk => ?_) no_no
    have go := wpAny_pure (M := Mx X) (A := A) (E := No) ((EP.tok S1 r1 kk).trans E1)
    cases o with
    | And => cases (show q = false from g); exact go
    | Or => cases q with
      | false => exact nomatch (show true = false from g)
      | true => exact go
theorem bop_ok {o : BoolOp} {a : E} {es : Es} (ha : EOK X G C d n md a) (hes : BOK X G C d n md es) : EOK X G C d n md (.bop o a es) := by
  intro x A env fr ρ H H' s v' m e R S F
  refine xBop_e m fun p xs pos m => bc_e m fun _ _ m => and_e m fun m m1 => and_e m fun m m0 => and_e m fun m _ => dec_e m (i_bop e fun w h1 ea e => ?_)
  rw [arm_eval_BoolOp, arm_evalEach_cons]
  exact hes m1 e R (ep_bind S F (ha m0 ea R S F) fun c2 s3 ρ2 E2 S2 r2 F2 k2 => ⟨ρ2, E2, S2, r2, F2⟩)
theorem lnil_ok : LOK X G C d n md .nil := by
  intro xs pos A env fr ρ H H' s vs m e R S F
  exact b0_e m fun _ => some_e (P := fun r => wpAny (Mx X) A (spliced (backTo pos (starEach [] env))) (LP X ρ s.heap r.1 r.2) No s) e (spliced_nil ⟨ρ, Ext.refl, S, VRs.nil⟩)
theorem star_cons {x : Expr} {xs : List Expr} (h : isStar x = false) : starEach (x :: xs) env = (false, eval x env) :: starEach xs env := by
  cases x <;> first | rfl | exact nomatch (show true = false from h)
theorem lcons_ok {a : E} {es : Es} (ha : EOK X G C d n md a) (hes : LOK X G C d n md es) : LOK X G C d n md (.cons a es) := by
  intro xs pos A env fr ρ H H' s vs m e R S F
  refine bc_e m fun y ys m => and_e m fun m m1 => and_e m fun ms m0 => i_lcons e fun w h1 ws h2 ew ews => ?_
  rw [star_cons (neg_e ms)]
  exact spliced_cons (ep_bind S F (ha m0 ew R S F) fun c s1 ρ1 E1 S1 r1 F1 k1 => lp_bind S1 F1 (hes m1 ews R S1 F1) fun cs s2 ρ2 E2 S2 r2 F2 k2 => ⟨ρ2, E1.trans E2, S2, VRs.cons (k2 _ _ r1) r2⟩)
theorem lst_ok {es : Es} (hes : LOK X G C d n md es) : EOK X G C d n md (.lst es) := by
  intro x A env fr ρ H H' s v' m e R S F
  exact xLst_e m fun _ _ m => i_lst e fun vs h1 ev hl => wpAny_List (lp_bind S F (hes m ev R S F) fun cs s1 ρ1 E1 S1 r1 F1 k1 => ⟨by rw [VRs.length r1, sizeLine_eq]; exact hl,
    EP.trans E1 (EP.list S1 (s' := { s1 with heap := s1.heap.push _ }) (size_none _) (keep_push _ _) rfl rfl (Heap.get?_push_size _ rfl) r1)⟩)
theorem tup_ok {es : Es} (hes : LOK X G C d n md es) : EOK X G C d n md (.tup es) := by
  intro x A env fr ρ H H' s v' m e R S F
  exact xTup_e m fun _ _ _ m => i_tup e fun vs h1 ev hl => wpAny_Tuple (lp_bind S F (hes m ev R S F) fun cs s1 ρ1 E1 S1 r1 F1 k1 => ⟨by rw [VRs.length r1, sizeLine_eq]; exact hl,
    EP.trans E1 (EP.tup2 S1 (s' := { s1 with heap := s1.heap.push _ }) (keep_push _ _) rfl rfl ⟨_, Heap.get?_push_size _ rfl, rfl, 0, rfl⟩ r1)⟩)
theorem idx_ok {a b : E} (ha : EOK X G C d n md a) (hb : EOK X G C d n md b) : EOK X G C d n md (.idx a b) := by
  intro x A env fr ρ H H' s v' m e R S F
  exact xSub_e m fun _ _ _ m => and_e m fun m m2 => and_e m fun m0 m1 => i_idx e fun va h1 vb h2 w ea eb ew =>
    Subscript_ (ep2 ha hb m1 m2 ea eb R S F fun c c2 s2 ρ2 E2 S2 r1 r2 F2 => ep_to E2 (idxV_ok ew (neg_e m0) S2 r1 r2))
theorem part_ok {e : E} (he : EOK X G C d n md e) {l : Option Expr} {H' : MH} {v : V} (m : onSm l (isNone e) (fun x => mE X.NM md env.scope.names e x) = true) (ev : fE G C n e fr H = some (v, H')) (R : Room A d) (S : SOK X ρ H s) (F : FrR X md ρ s.heap env fr) :
    wpAny (Mx X) A (evalPart l env) (EP X ρ s.heap v H') No s := by
  cases l with
  | none =>
    revert ev
    refine isNone_e (e := e) m fun ev => pair_e ev ?_
    rw [evalPart_none]
    exact wpAny_pure (EP.same S rfl)
  | some x =>
    rw [evalPart_some]
    exact he m ev R S F
theorem slc_end {vo vl vh : V} {c c2 c3 : Value} {H3 H' : MH} {v' : V} (e : slcV vo vl vh H3 = some (v', H')) (S3 : SOK X ρ H3 s) (r1 : VR X s.heap ρ vo c) (r2 : VR X s.heap ρ vl c2) (r3 : VR X s.heap ρ vh c3) {o' : Expr} {l u : Option Expr} {q : Pos} :
    wpAny (Mx X) A (subscriptTail o' (.Slice l u none q) c (.ref s.heap.objs.size)) (EP X ρ s.heap v' H') No { s with heap := s.heap.push { cls := .type "slice", data := .fields #[c2, c3, .none] } } := by
  have k : Keep s.heap (s.heap.push { cls := .type "slice", data := .fields #[c2, c3, .none] }) := keep_push _ _
  have M : Mono s.heap (s.heap.push { cls := .type "slice", data := .fields #[c2, c3, .none] }) := fun b o e _ => k b o e
  exact ep_to (SOK.ext_keep k) (slcV_ok e (S3.grow (s' := { s with heap := s.heap.push { cls := .type "slice", data := .fields #[c2, c3, .none] } }) k rfl rfl) (r1.mono M (List.prefix_refl _)) (r2.mono M (List.prefix_refl _)) (r3.mono M (List.prefix_refl _)) (Heap.get?_push_size _ rfl))
theorem slc_ok {o lo hi : E} (ho : EOK X G C d n md o) (hlo : EOK X G C d n md lo) (hhi : EOK X G C d n md hi) : EOK X G C d n md (.slc o lo hi) := by
  intro x A env fr ρ H H' s v' m e R S F
  refine xSub_e m fun o' i p m => xSli_e (x := i) m fun l u st q m => bN_e m fun m => and_e m fun m m2 => and_e m fun m0 m1 => i_slc e fun vo h1 vl h2 vh h3 eo el eh e => ?_
  exact Subscript_ (ep_bind S F (ho m0 eo R S F) fun c s1 ρ1 E1 S1 r1 F1 k1 => wpAny_Slice (ep_bind S1 F1 (part_ok hlo m1 el R S1 F1) fun c2 s2 ρ2 E2 S2 r2 F2 k2 => ep_bind S2 F2 (part_ok hhi m2 eh R S2 F2) fun c3 s3 ρ3 E3 S3 r3 F3 k3 => wpAny_pure (ep_to ((E1.trans E2).trans E3) (slc_end e S3 (k3 _ _ (k2 _ _ r1)) (k3 _ _ r2) r3))))
theorem base_plain {o : Expr} {name : Str} {whole : Sem Value} (h : isSuper o = false) : attributeBase o name env whole = whole := by
  cases o with
  | Call f as ks p =>
    cases f with
    | Name id q =>
      cases as with
      | cons => rfl
      | nil => cases ks with
        | cons => rfl
        | nil => exact nomatch (show true = false from h)
    | _ => rfl
  | _ => rfl
theorem att_ok (OO : ObjOK X G) {a : E} {i : Nat} (ha : EOK X G C d n md a) : EOK X G C d n md (.att a i) := by
  intro x A env fr ρ H H' s v' m e R S F
  refine xAtt_e m fun _ _ _ m => and_e m fun m m2 => and_e m fun m0 m1 => i_att e fun va h1 w ea ew => ?_
  exact nm_e (P := fun nm => wpAny (Mx X) A (eval (.Attribute _ nm _) env) (EP X ρ s.heap w h1) No s) m0 (Attribute_any_ (ep_bind S F (ha m2 ea R S F) fun c s1 ρ1 E1 S1 r1 F1 k1 => ep_to E1 (OO.att ew R S1 r1)) (by rw [arm_eval_Attribute, base_plain (neg_e m1)]))
end
end Rz
end Q9
section Q10
open PySem PySem.W PySem.Calls PyProof.Rows
namespace Rz
set_option linter.unusedVariables false
set_option maxRecDepth 100000
set_option linter.unusedSimpArgs false

section
variable {X : Cx} {G : Gl} {C : Call} {d n : Nat} {NM : Nat → Str} {md : Md} {A : Around} {ρ : List Addr} {H : MH} {s : Shared} {env : Env} {fr : Fr}

theorem star_all {es : Es} {xs : List Expr} {ns : Ns} (m : mL X.NM md ns es xs = true) : ∀ x ∈ xs, isStar x = false := by
  induction xs generalizing es with
  | nil => exact fun x h => nomatch h
  | cons x xs ih => cases es with
    | nil => exact nomatch (show false = true from m)
    | cons e es => exact and_e (show (!isStar x && mE X.NM md ns e x && mL X.NM md ns es xs) = true from m) fun m m2 => and_e m fun m0 m1 => List.forall_mem_cons.mpr ⟨neg_e m0, ih m2⟩
theorem back_plain {pos : Pos} : ∀ {xs : List Expr}, (∀ x ∈ xs, isStar x = false) → backTo pos (starEach xs env) = xs.map fun x => (false, eval x env)
  | [], _ => rfl
  | x :: xs, h => by
    rw [star_cons (h x (by simp)), List.map_cons, ← back_plain (pos := pos) fun y hy => h y (by simp [hy])]
    rfl
theorem plain_any {xs : List Expr} {f : Expr → Sem Value} : (xs.map fun x => (false, f x)).any (·.1) = false := by
  simp
theorem plain_all {xs : List Expr} {f : Expr → Sem Value} : (xs.map fun x => (false, f x)).all (!·.1) = true := by
  simp
theorem args_of {f : Value} {xs : List Expr} {pos : Pos} (hx : ∀ x ∈ xs, isStar x = false) {Q : List Value → Shared → Prop} (h : wpAny (Mx X) A (spliced (backTo pos (starEach xs env))) Q No s) :
    wpAny (Mx X) A (evalArgs f true (backTo pos (starEach xs env)) []) (fun a s1 => a.kw = [] ∧ Q a.pos s1) No s := by
  rw [back_plain hx] at h ⊢
  cases xs with
  | nil =>
    rw [List.map_nil] at h ⊢
    unfold evalArgs
    show wpAny _ _ (spliced [] >>= _) _ _ _
    refine wpAny_bind (wpAny_mono h (fun vs s' h' => ?_) no_no)
    refine wpAny_holding ?_
    exact wpAny_bind (wpAny_pure (wpAny_bind (wpAny_pure (wpAny_pure ⟨rfl, h'⟩))))
  | cons x xs =>
    rw [List.map_cons] at h ⊢
    exact evalArgs_plain (wpAny_mono h (fun _ _ q => ⟨rfl, q⟩) no_no)
theorem call_tail {t : Sem Value} {Q : Value → Shared → Prop} (ht : wpAny (Mx X) A t Q No s) : wpAny (Mx X) A (t >>= fun r => holding [r] point >>= fun _ => pure r) Q No s :=
  wpAny_bind (wpAny_mono ht (fun r s₂ hr => wpAny_bind (wpAny_holding (wpAny_point (wpAny_pure hr)))) no_no)
theorem callW {pos : Pos} {f : Value} {first : List Value} {args : List (Bool × Sem Value)} {Q : Value → Shared → Prop} (hp : args.any (·.1) = false)
    (h : wpAny (Mx X) A (evalArgs f true args []) (fun a s1 => a.kw = [] ∧ wpAny (Mx X) A (keeperOf f) (fun _ s2 => wpAny (Mx X) A (call f (first ++ a.pos)) Q No s2) No s1) No s) :
    wpAny (Mx X) A (callWith pos f first args []) Q No s := by
  unfold callWith
  refine wpAny_bind (wpAny_holding (wpAny_mono h (fun x s₁ h₁ => wpAny_bind (wpAny_standAt ?_)) no_no))
  obtain ⟨hk, h₁⟩ := h₁
  rw [hp, List.any_nil, Bool.or_false]
  refine wpAny_bind (wpAny_mono h₁ (fun k s2 h2 => ?_) no_no)
  rw [hk]
  cases k
  · dsimp only
    split
    · exact call_tail h2
    · exact call_tail (by unfold callMarked; exact wpAny_keep h2)
  · dsimp only
    split
    · exact call_tail h2
    · exact call_tail (by unfold callMarked; exact wpAny_keep h2)
  · exact call_tail h2
  · exact call_tail (wpAny_operate' h2)
theorem call_args {f : Value} {pos : Pos} {first : List Value} {es : Es} {xs : List Expr} {vs : List V} {H1 : MH} {Q : Value → Shared → Prop} (hes : LOK X G C d n md es) (m : mL X.NM md env.scope.names es xs = true) (e : (fL G C n es).1 fr H = some (vs, H1)) (R : Room A d) (S : SOK X ρ H s) (F : FrR X md ρ s.heap env fr)
    (k : ∀ cs s1 ρ1, Ext X ρ s.heap ρ1 s1.heap → SOK X ρ1 H1 s1 → VRs X s1.heap ρ1 vs cs → FrR X md ρ1 s1.heap env fr → (∀ w cw, VR X s.heap ρ w cw → VR X s1.heap ρ1 w cw) →
      wpAny (Mx X) A (keeperOf f) (fun _ s2 => Tok s1 s2) No s1 ∧ ∀ tk, wpAny (Mx X) A (call f (first ++ cs)) Q No { s1 with toks := tk }) :
    wpAny (Mx X) A (callWith pos f first (backTo pos (starEach xs env)) []) Q No s := by
  have hx := star_all m
  refine callW (by rw [back_plain hx]; exact plain_any) ?_
  refine args_of (Q := fun cs s1 => wpAny (Mx X) A (keeperOf f) (fun _ s2 => wpAny (Mx X) A (call f (first ++ cs)) Q No s2) No s1) hx (lp_bind S F (hes m e R S F) fun cs s1 ρ1 E1 S1 r1 F1 k1 => ?_)
  have q := k cs s1 ρ1 E1 S1 r1 F1 k1
  exact wpAny_mono q.1 (fun u s2 t => tok_e t q.2) no_no
theorem call_shape {f : Expr} {args : List Expr} {pos : Pos} (h : isAttr f = false) : eval (.Call f args [] pos) env = (do callWith pos (← eval f env) [] (backTo pos (starEach args env)) []) := by
  cases f <;> first | rfl | exact nomatch (show true = false from h)
theorem call_ok (CO : CallOK X C d) {f : E} {args : Es} (hf : EOK X G C d n md f) (hes : LOK X G C d n md args) : EOK X G C d n md (.call f args) := by
  intro x A env fr ρ H H' s v' m e R S F
  refine xCal_e m fun f' as ks p m => b0_e m fun m => and_e m fun m m2 => and_e m fun m0 m1 => i_call e fun vf h1 vs h2 ef es e => ?_
  rw [call_shape (neg_e m0)]
  exact wpAny_bind (ep_bind S F (hf m1 ef R S F) fun c s1 ρ1 E1 S1 r1 F1 k1 => call_args hes m2 es R S1 F1 fun cs s2 ρ2 E2 S2 r2 F2 k2 => ⟨CO.keep e R S2 (k2 _ _ r1), fun tk =>
    ep_to (E1.trans E2) (CO.run (s := { s2 with toks := tk }) e R (S2.tok tk) (k2 _ _ r1) r2)⟩)
theorem prim_keep (q : Prim) : wpAny (Mx X) A (keeperOf (primVal q)) (fun _ s2 => Tok s s2) No s := by
  cases q <;> exact wpAny_pure (Tok.refl s)
theorem prim_run {mg mb} (XO : XOK X G mg mb) (OO : ObjOK X G) {q : Prim} {vs : List V} {v : V} {H' : MH} {cs : List Value} (e : primV q vs H = some (v, H')) (R : Room A d) (S : SOK X ρ H s) (r : VRs X s.heap ρ vs cs) : wpAny (Mx X) A (call (primVal q) cs) (EP X ρ s.heap v H') No s := by
  by_cases hq : q = .iter
  · subst hq
    exact OO.itr e R S r
  · exact primV_ok XO hq e R.handled S r
theorem prim_ok {mg mb} (XO : XOK X G mg mb) (OO : ObjOK X G) {q : Prim} {args : Es} (hes : LOK X G C d n md args) : EOK X G C d n md (.prim q args) := by
  intro x A env fr ρ H H' s v' m e R S F
  refine xCal_e m fun f' as ks p m => xNam_e (x := f') m fun id pp m => b0_e m fun m => and_e m fun m m3 => and_e m fun m m2 => and_e m fun m0 m1 => i_prim e fun vs h2 es e => ?_
  rw [call_shape rfl]
  have g := glb_load XO S F
  have p' := XO.prim q
  rw [eq_of_beq m0] at p'
  exact wpAny_bind (Name_function_global F.kind (isK_spec m1) (loadGlobal_builtin g.1 p'.1 g.2 p'.2 (call_args hes m3 es R S F fun cs s2 ρ2 E2 S2 r2 F2 k2 => ⟨prim_keep q, fun tk => ep_to E2 (prim_run XO OO (s := { s2 with toks := tk }) e R (S2.tok tk) r2)⟩)) (okN_spec m2).1)
theorem mth_shape {o' : Expr} {nm : Str} {ap p : Pos} {as : List Expr} (h1 : isSuper o' = false) (h2 : ap.endLine = p.line) (h3 : as.length < 20) (h4 : ∀ x ∈ as, isStar x = false) :
    ∃ pl : Sem Bool, eval (.Call (.Attribute o' nm ap) as [] p) env = (do
      let ov ← eval o' env
      standAt ap.atName
      let (f, first) ← holding [ov] (getMethod ov nm pl)
      callWith p f first (backTo p (starEach as env)) []) := by
  refine ⟨(do return (← importBound o' env).getD true), ?_⟩
  rw [arm_eval_Call, base_plain h1]
  have hf : methodCallForm (as.length + ([] : List Keyword).length) (backTo p (starEach as env)) (backToKw p (keywordEach [] env)) = true := by
    unfold methodCallForm
    rw [back_plain h4, plain_all, show backToKw p (keywordEach [] env) = [] from rfl]
    simp
    (first | lia | omega)
  have hm : ∀ f' : Bool, f' = true → methodCallPos f' o' env ap p = pure p := fun f' e => by
    subst e; unfold methodCallPos; rw [h2]; simp
  unfold methodCall calleeOf
  simp only [List.length_nil] at hf ⊢
  simp only [hf, hm true rfl, if_true]
  rfl
theorem getV_some {α : Type} {G : Gl} {i n : Nat} {h : MH} {dat : V → α} {mth : Nat → α} {r : α} (e : getV G i n h dat mth = some r) : ∃ c d kv, h[i]? = some (.inst c d) ∧ h[d]? = some (.dict kv) ∧
    ((∃ v, lk kv n = some v ∧ G.dat c n = true ∧ dat v = r) ∨ ∃ k, lk kv n = none ∧ Nat.ble n 399 = true ∧ G.m c n = some k ∧ mth k = r) := by
  obtain ⟨c, d, e1, e2⟩ := onInst_some e
  obtain ⟨kv, e3, e4⟩ := onDict_some e2
  refine ⟨c, d, kv, e1, e3, ?_⟩
  cases ew : lk kv n with
  | some v =>
    rw [ew] at e4
    obtain ⟨e5, e6⟩ := iff_some e4
    exact .inl ⟨v, rfl, e5, Option.some.inj e6⟩
  | none =>
    rw [ew] at e4
    obtain ⟨e5, e6⟩ := iff_some e4
    obtain ⟨k, e7, e8⟩ := onL_some e6
    exact .inr ⟨k, rfl, e5, e7, Option.some.inj e8⟩
theorem getV_all {α : Type} {G : Gl} {i n : Nat} {h : MH} {dat : V → α} {mth : Nat → α} {r : α} (e : getV G i n h dat mth = some r) : (∃ v, dat v = r) ∨ ∃ k, mth k = r := by
  obtain ⟨c, d, kv, _, _, q⟩ := getV_some e
  exact q.imp (fun ⟨v, _, _, q⟩ => ⟨v, q⟩) fun ⟨k, _, _, _, q⟩ => ⟨k, q⟩
theorem calleeO_bi {G : Gl} {self : V} {i n : Nat} {h : MH} {o : AO} (e : calleeO G i n h o = some (.bi self)) : self = .ref i ∧ ∃ l, o = .list l := by
  cases o <;> first | exact no_some e | skip
  · cases e; exact ⟨rfl, _, rfl⟩
  · exact (getV_all e).elim (fun q => q.elim fun _ q => nomatch q) fun q => q.elim fun _ q => nomatch q
theorem callee_bi {G : Gl} {vo self : V} {n : Nat} {h : MH} (e : calleeV G vo n h = some (.bi self)) : self = vo ∧ ∀ j, vo = .ref j → ∃ l, h[j]? = some (.list l) := by
  cases vo <;> first | exact no_some e | skip
  · cases e; exact ⟨rfl, fun j q => nomatch q⟩
  · cases e; exact ⟨rfl, fun j q => nomatch q⟩
  · obtain ⟨o, eo, e1⟩ := onL_some e
    obtain ⟨e2, l, e3⟩ := calleeO_bi e1
    exact ⟨e2, fun j q => by cases q; exact ⟨l, e3 ▸ eo⟩⟩
theorem mth_ok {mg mb} (XO : XOK X G mg mb) (NO : NamesOK X) (OO : ObjOK X G) (CO : CallOK X C d) {o : E} {i : Nat} {args : Es} (ho : EOK X G C d n md o) (hes : LOK X G C d n md args) : EOK X G C d n md (.mth o i args) := by
  intro x A env fr ρ H H' s v' m e R S F
  refine xCal_e m fun f' as ks p m => xAtt_e (x := f') m fun o' nm ap m => b0_e m fun m => and_e m fun m m5 => and_e m fun m m4 => and_e m fun m m3 => and_e m fun m m2 => and_e m fun m0 m1 => ?_
  refine nm_e (P := fun nm => wpAny (Mx X) A (eval (.Call (.Attribute o' nm ap) as [] p) env) (EP X ρ s.heap v' H') No s) m0 ?_
  obtain ⟨pl, sh⟩ := mth_shape (env := env) (nm := X.NM i) (neg_e m1) (of_decide_eq_true m2) (of_decide_eq_true m3) (star_all m5)
  rw [sh]
  refine i_mth e fun vo h1 vs h2 eo es => ⟨fun self ec e => ?_, fun g pre ec e => ?_⟩
  · refine wpAny_bind (ep_bind S F (ho m4 eo R S F) fun c s1 ρ1 E1 S1 r1 F1 k1 => wpAny_bind (wpAny_standAt (wpAny_bind (wpAny_holding ?_))))
    obtain ⟨⟨id, b1, b2⟩⟩ := biM_ok XO NO (A := A) e R.handled
    obtain ⟨rfl, hl⟩ := callee_bi ec
    exact b1 ρ1 h1 s1 c pl _ S1 r1 hl (call_args hes m5 es R S1 F1 fun cs s2 ρ2 E2 S2 r2 F2 k2 => ⟨wpAny_pure (Tok.refl s2), fun tk => ep_to (E1.trans E2) (b2 ρ2 { s2 with toks := tk } c cs (S2.tok tk) (k2 _ _ r1) r2)⟩)
  · refine wpAny_bind (ep_bind S F (ho m4 eo R S F) fun c s1 ρ1 E1 S1 r1 F1 k1 => wpAny_bind (wpAny_standAt (wpAny_bind (wpAny_holding (wpAny_mono (OO.mth (pl := pl) ec R S1 r1) (fun r s1' hr => ?_) no_no)))))
    obtain ⟨ρ1', E1', S1', rf, rp⟩ := hr
    exact call_args hes m5 es R S1' (F1.step S1 E1') fun cs s2 ρ2 E2 S2 r2 F2 k2 => ⟨CO.keep e R S2 (k2 _ _ rf), fun tk =>
      ep_to ((E1.trans E1').trans E2) (CO.run (s := { s2 with toks := tk }) e R (S2.tok tk) (k2 _ _ rf) (VRs.append (rp.mono (S1'.mono E2) E2.pre) r2))⟩
end
end Rz
end Q10
section Q11
open PySem PySem.W PySem.Calls PyProof.Rows
namespace Rz
set_option linter.unusedVariables false
set_option linter.unusedSimpArgs false
set_option maxRecDepth 100000

section
variable {X : Cx} {G : Gl} {C : Call} {d n : Nat} {NM : Nat → Str} {md : Md} {A : Around} {ρ : List Addr} {H : MH} {s : Shared} {env : Env} {fr : Fr} {mg mb : Str → Option Value}

/-- the cells that a block closes over -/
noncomputable def cloOf (cells : List (Str × Addr)) : Ns → List (Str × Addr) → List (Str × Addr)
  | [], acc => acc
  | (m, k) :: r, acc => kC k (onSm (cells.lookup m) acc fun a => cloOf cells r ((m, a) :: acc)) (cloOf cells r acc) (cloOf cells r acc)
theorem cl_other {cells : List (Str × Addr)} {m : Str} {k : NameKind} {r : Ns} {acc : List (Str × Addr)} (h : k ≠ .free) : cloOf cells ((m, k) :: r) acc = cloOf cells r acc := kC_f h rfl
theorem cl_free {cells : List (Str × Addr)} {m : Str} {r : Ns} {acc : List (Str × Addr)} : cloOf cells ((m, .free) :: r) acc = onSm (cells.lookup m) acc fun a => cloOf cells r ((m, a) :: acc) := rfl
/-- how a table grows -/
theorem cl_ind {cells : List (Str × Addr)} {P : List (Str × Addr) → Prop} (k : ∀ m a acc, cells.lookup m = some a → P acc → P ((m, a) :: acc)) (ns : Ns) : ∀ acc, P acc → P (cloOf cells ns acc) := by
  induction ns with
  | nil => exact fun acc h => h
  | cons p r ih =>
    obtain ⟨m, q⟩ := p
    intro acc h
    by_cases hq : q = .free
    · subst hq
      rw [cl_free]
      cases ha : cells.lookup m with
      | none => exact h
      | some a => exact ih _ (k m a acc ha h)
    · rw [cl_other hq]
      exact ih _ h
theorem lookup_cons_eq {α : Type} (m n : Str) (a : α) (l : List (Str × α)) : ((m, a) :: l).lookup n = if n = m then some a else l.lookup n := by
  rw [List.lookup_cons]
  by_cases h : n = m
  · subst h; simp
  · rw [if_neg h]
    have : (n == m) = false := by simpa using h
    rw [this]
theorem cloOf_sound {cells : List (Str × Addr)} (ns : Ns) (acc : List (Str × Addr)) (h : ∀ n a, acc.lookup n = some a → cells.lookup n = some a) : ∀ n a, (cloOf cells ns acc).lookup n = some a → cells.lookup n = some a :=
  cl_ind (P := fun acc => ∀ n a, acc.lookup n = some a → cells.lookup n = some a) (fun m a acc ha h n b e => by
    rw [lookup_cons_eq] at e
    by_cases q : n = m
    · rw [if_pos q] at e; rw [q, ha]; exact e
    · rw [if_neg q] at e; exact h n b e) ns acc h
theorem cloOf_keep {cells : List (Str × Addr)} (ns : Ns) (acc : List (Str × Addr)) (n : Str) (h : (acc.lookup n).isSome = true) : ((cloOf cells ns acc).lookup n).isSome = true :=
  cl_ind (P := fun acc => (acc.lookup n).isSome = true) (fun m a acc ha h => by
    rw [lookup_cons_eq]
    by_cases q : n = m
    · rw [if_pos q]; rfl
    · rw [if_neg q]; exact h) ns acc h
/-- every free name has its cell -/
noncomputable def FreeAt (cells : List (Str × Addr)) (ns : Ns) : Prop := ∀ m, (m, NameKind.free) ∈ ns → (cells.lookup m).isSome = true
theorem FreeAt.head {cells : List (Str × Addr)} {m : Str} {r : Ns} (h : FreeAt cells ((m, .free) :: r)) : ∃ a, cells.lookup m = some a := Option.isSome_iff_exists.mp (h m (List.mem_cons_self ..))
theorem FreeAt.tail {cells : List (Str × Addr)} {p : Str × NameKind} {r : Ns} (h : FreeAt cells (p :: r)) : FreeAt cells r := fun x hx => h x (List.mem_cons_of_mem _ hx)
theorem cloOf_has {cells : List (Str × Addr)} (ns : Ns) : ∀ (acc : List (Str × Addr)), FreeAt cells ns → ∀ m, (m, NameKind.free) ∈ ns → ((cloOf cells ns acc).lookup m).isSome = true := by
  induction ns with
  | nil => exact fun acc _ m h => nomatch h
  | cons p r ih =>
    obtain ⟨m', k⟩ := p
    intro acc hf m h
    by_cases hk : k = .free
    · subst hk
      obtain ⟨a, ha⟩ := hf.head
      rw [cl_free, ha]
      rcases List.mem_cons.mp h with e | e
      · cases e
        refine cloOf_keep r _ _ ?_
        rw [lookup_cons_eq, if_pos rfl]; rfl
      · exact ih _ hf.tail m e
    · rw [cl_other hk]
      rcases List.mem_cons.mp h with e | e
      · cases e; exact absurd rfl hk
      · exact ih _ hf.tail m e
theorem closure_eq {scope : Scope} (hf : FreeAt env.cells scope.names) : closureFor scope env = pure (cloOf env.cells scope.names []) := by
  unfold closureFor
  suffices key : ∀ (ns : Ns) (acc : List (Str × Addr)), FreeAt env.cells ns →
      (forIn ns acc fun x r => (if x.2 == NameKind.free then (do let a ← cellOf env x.1; pure (ForInStep.yield ((x.1, a) :: r))) else pure (ForInStep.yield r) : Sem (ForInStep (List (Str × Addr))))) = pure (cloOf env.cells ns acc) by
    show (forIn scope.names [] _ >>= _) = _
    rw [key scope.names [] hf]
    rfl
  intro ns
  induction ns with
  | nil => intro acc _; rw [List.forIn_nil]; rfl
  | cons p r ih =>
    intro acc hf
    obtain ⟨m, k⟩ := p
    rw [List.forIn_cons]
    by_cases hk : k = .free
    · subst hk
      obtain ⟨a, ha⟩ := hf.head
      have h1 : cellOf env m = pure a := by unfold cellOf; rw [ha]
      rw [cl_free, ha]
      simp only [beq_self_eq_true, if_true, h1]
      exact ih _ hf.tail
    · have : (k == NameKind.free) = false := by simpa using hk
      rw [cl_other hk]
      simp only [this, Bool.false_eq_true, if_false]
      exact ih _ hf.tail
theorem closure_ok {scope : Scope} {E : Value → Shared → Prop} {Q : List (Str × Addr) → Shared → Prop} (hf : FreeAt env.cells scope.names) (h : Q (cloOf env.cells scope.names []) s) : wpAny (Mx X) A (closureFor scope env) Q E s := by
  rw [closure_eq hf]; exact wpAny_pure h

theorem fa_e {ns r : Ns} {m : Str} {k : NameKind} {fv : List Nat} {P : NameKind → List Nat → Prop} (h : freesAre NM ns ((m, k) :: r) fv = true) (k1 : ∀ x fv, NM x = m → isCF ns m = true → freesAre NM ns r fv = true → P .free (x :: fv)) (k2 : k ≠ .free → freesAre NM ns r fv = true → P k fv) : P k fv := by
  cases k with
  | free => exact bc_e h fun x fv h => and_e h fun h h3 => and_e h fun h1 h2 => k1 x fv (eq_of_beq h1) h2 h3
  | cell => exact nomatch (show false = true from h)
  | _ => exact k2 (fun q => nomatch q) h
theorem fi_e {r : Ns} {m : Str} {k : NameKind} {fv : List Nat} {P : NameKind → List Nat → Prop} (h : freesIn NM ((m, k) :: r) fv = true) (k1 : ∀ x fv, NM x = m → freesIn NM r fv = true → P .free (x :: fv)) (k2 : k ≠ .free → freesIn NM r fv = true → P k fv) : P k fv := by
  cases k with
  | free => exact bc_e h fun x fv h => and_e h fun h1 h3 => k1 x fv (eq_of_beq h1) h3
  | _ => exact k2 (fun q => nomatch q) h
theorem fi_other {r : Ns} {m : Str} {k : NameKind} {fv : List Nat} (h : k ≠ .free) : freesIn NM ((m, k) :: r) fv = freesIn NM r fv := kC_f h rfl
theorem freesIn_of {ns sc : Ns} {fv : List Nat} (h : freesAre NM ns sc fv = true) : freesIn NM sc fv = true := by
  induction sc generalizing fv with
  | nil => exact h
  | cons p r ih =>
    obtain ⟨m, k⟩ := p
    refine fa_e (P := fun k fv => freesIn NM ((m, k) :: r) fv = true) h (fun x fv h1 h2 h3 => ?_) fun hk h => (fi_other hk).trans (ih h)
    exact (Bool.and_eq_true _ _).mpr ⟨beq_of_eq h1, ih h3⟩
theorem frees_unique (inj : ∀ x y, NM x = NM y → x = y) {sc : Ns} {fv fv' : List Nat} (h : freesIn NM sc fv = true) (h' : freesIn NM sc fv' = true) : fv = fv' := by
  induction sc generalizing fv fv' with
  | nil => exact b0_e h fun _ => b0_e h' fun _ => rfl
  | cons p r ih =>
    obtain ⟨m, k⟩ := p
    revert h'
    refine fi_e (P := fun k fv => freesIn NM ((m, k) :: r) fv' = true → fv = fv') h (fun x fv h1 h2 h' => ?_) fun hk h h' => ih h ((fi_other hk).symm.trans h')
    exact bc_e h' fun y fv' h' => and_e h' fun h3 h4 => by rw [inj x y (h1.trans (eq_of_beq h3).symm), ih h2 h4]
theorem frees_at {ns sc : Ns} {fv : List Nat} (h : freesAre NM ns sc fv = true) : ∀ m, (m, NameKind.free) ∈ sc → ∃ x ∈ fv, NM x = m ∧ isCF ns m = true := by
  induction sc generalizing fv with
  | nil => exact fun m hm => nomatch hm
  | cons p r ih =>
    obtain ⟨m', k⟩ := p
    refine fa_e (P := fun k fv => ∀ m, (m, NameKind.free) ∈ (m', k) :: r → ∃ x ∈ fv, NM x = m ∧ isCF ns m = true) h (fun x fv h1 h2 h3 m hm => ?_) fun hk h m hm => ?_
    · rcases List.mem_cons.mp hm with e | e
      · cases e; exact ⟨x, List.mem_cons_self .., h1, h2⟩
      · exact Exists.elim (ih h3 m e) fun y q => ⟨y, List.mem_cons_of_mem _ q.1, q.2⟩
    · rcases List.mem_cons.mp hm with e | e
      · cases e; exact absurd rfl hk
      · exact ih h m e
theorem frees_mem {ns sc : Ns} {fv : List Nat} (h : freesAre NM ns sc fv = true) : ∀ x ∈ fv, (NM x, NameKind.free) ∈ sc ∧ isCF ns (NM x) = true := by
  induction sc generalizing fv with
  | nil => exact b0_e h fun _ x hx => nomatch hx
  | cons p r ih =>
    obtain ⟨m', k⟩ := p
    refine fa_e (P := fun k fv => ∀ x ∈ fv, (NM x, NameKind.free) ∈ (m', k) :: r ∧ isCF ns (NM x) = true) h (fun y fv h1 h2 h3 x hx => ?_) fun hk h x hx => ⟨List.mem_cons_of_mem _ (ih h x hx).1, (ih h x hx).2⟩
    rcases List.mem_cons.mp hx with rfl | e
    · rw [h1]; exact ⟨List.mem_cons_self .., h2⟩
    · exact ⟨List.mem_cons_of_mem _ (ih h3 x e).1, (ih h3 x e).2⟩
@[elab_as_elim] theorem mapM_e {y : Nat} {fv cs : List Nat} {f : Nat → Option Nat} {P : List Nat → Prop} (h : (y :: fv).mapM f = some cs) (k : ∀ c cs, f y = some c → fv.mapM f = some cs → P (c :: cs)) : P cs := by
  rw [List.mapM_cons] at h
  exact bnd_e h fun c hc h => bnd_e h fun cs' hcs h => some_e h (k c cs' hc hcs)
theorem mapM_get {fv cs : List Nat} {f : Nat → Option Nat} (h : fv.mapM f = some cs) : fv.length = cs.length ∧ (∀ (j x c : Nat), fv[j]? = some x → cs[j]? = some c → f x = some c) ∧ ∀ x ∈ fv, (f x).isSome = true := by
  induction fv generalizing cs with
  | nil =>
    rw [List.mapM_nil] at h
    exact some_e h ⟨rfl, fun j x c e => no_some e, fun x hx => absurd hx List.not_mem_nil⟩
  | cons y fv ih =>
    refine mapM_e h fun c cs hc hcs => ?_
    obtain ⟨h1, h2, h3⟩ := ih hcs
    refine ⟨congrArg (· + 1) h1, fun j x c' e1 e2 => ?_, List.forall_mem_cons.mpr ⟨by rw [hc]; rfl, h3⟩⟩
    cases j with
    | zero => cases e1; cases e2; exact hc
    | succ j => exact h2 j x c' e1 e2
theorem closure_rel (F : FrR X md ρ s.heap env fr) {sc : Ns} {fv cs : List Nat} (hf : freesAre X.NM env.scope.names sc fv = true) (hm : fv.mapM (lk fr.cel) = some cs) :
    FreeAt env.cells sc ∧ CloR X ρ fv cs (cloOf env.cells sc []) := by
  obtain ⟨h1, h2, h3⟩ := mapM_get hm
  have hFA : FreeAt env.cells sc := fun m hm' => by
    obtain ⟨x, hx, rfl, hcf⟩ := frees_at hf m hm'
    obtain ⟨i, hi⟩ := Option.isSome_iff_exists.mp (h3 x hx)
    obtain ⟨a, _, ha⟩ := F.cel x i hi (isCF_spec hcf)
    rw [ha]; rfl
  refine ⟨hFA, h1, fun j x c e1 e2 => ?_⟩
  obtain ⟨hx1, hx2⟩ := frees_mem hf x (List.mem_of_getElem? e1)
  obtain ⟨a, ha1, ha2⟩ := F.cel x c (h2 j x c e1 e2) (isCF_spec hx2)
  refine ⟨a, ha1, ?_⟩
  have hs := cloOf_has sc [] hFA _ hx1
  obtain ⟨b, hb⟩ := Option.isSome_iff_exists.mp hs
  have := cloOf_sound sc [] (fun n a e => by simp at e) _ _ hb
  rw [ha2] at this; cases this
  exact hb

theorem triple_hit {pos : Pos} {c : Value} {l k : Nat} (h1 : l = pos.line) (h2 : k = pos.col) : codeAmong pos [rawInt l, rawInt k, c] = some c := by
  subst h1; subst h2
  simp [codeAmong, rawInt]
/-- the code of an inner function -/
theorem code_ok (XO : XOK X G mg mb) (S : SOK X ρ H s) {t : Tab} (ht : t ∈ X.tabs) (hc : env.code = .ref t.c) {pos : Pos} (h1 : t.line = pos.line) (h2 : t.col = pos.col) {fl : Nat} {name : Str} {p : Arguments} {sc : Scope} {body : FuncBody} {Q : Value → Shared → Prop}
    (k : ∀ c' h' tk, SOK X ρ H { s with heap := h', toks := tk } → Ext X ρ s.heap ρ h' → CodeGood h' c' t.q → Q (.ref c') { s with heap := h', toks := tk }) :
    wpAny (Mx X) A (functionCode env pos fl name t.q p sc body) Q No s := by
  obtain ⟨ps, i1, i2, i3⟩ := S.tabs t ht
  rcases i3 with rfl | ⟨c', rfl, g⟩
  · refine wpAny_functionCodeX hc i1 i2 rfl fun c' h' tk x1 x2 x3 x4 x5 x6 x7 => ?_
    obtain ⟨P', _, _, ⟨⟨oc, vc, y1, y2, y3, y4⟩, _⟩⟩ := x7
    obtain ⟨cc, o5, v5, t5, z1, z2, z3, z4⟩ := x5
    cases z1
    rw [z2] at y1; cases y1
    rw [z3] at y3; cases y3
    have hg : CodeGood h' c' t.q := ⟨_, _, _, z2, y2, z3, z4⟩
    have hP : t.P ∈ X.TP := List.mem_map_of_mem ht
    have M : Mono s.heap h' := fun b o e i => x1 b o (fun q => by rw [q, i2.2] at e; cases e; cases i) e
    have nc : ∀ t' ∈ X.tabs, t'.c ≠ t.P := fun t' ht' e => (XO.codes t' ht').2 (e ▸ hP)
    refine k c' h' tk ⟨S.gens, S.os, fun b o e n => x1 b o (fun q => n (q ▸ hP)) (S.base b o e n), ?_, S.len, S.nod, S.hi, fun i o a e1 e2 => ?_⟩ ⟨List.prefix_refl _, fun b o e _ n => x1 b o (fun q => n (q ▸ hP)) e, fun _ a b => absurd a b⟩ hg
    · intro t' ht'
      by_cases q : t'.P = t.P
      · have := XO.dist t' ht' t ht q
        subst this
        refine ⟨_, x4, x6, .inr ⟨c', ?_, hg⟩⟩
        rw [h1, h2]; rfl
      · obtain ⟨ps', j1, j2, j3⟩ := S.tabs t' ht'
        refine ⟨ps', j1.extBut x1 (nc t' ht') q, j2.extBut x1 (nc t' ht') q, j3.imp id fun q => Exists.elim q fun c'' q => ⟨c'', q.1, q.2.mono M⟩⟩
    · have hO := S.obj i o a e1 e2
      refine hO.mono M (List.prefix_refl _) fun x e => x1 _ _ (fun q => ?_) e
      rw [q] at hO
      exact OR.no_tab hO i2.2
  · refine wpAny_functionCode_hit hc i1 (triple_hit h1 h2) ?_
    exact k c' s.heap s.toks (S.tok s.toks) Ext.refl g
theorem make_tail (XO : XOK X G mg mb) (S : SOK X ρ H s) (F : FrR X md ρ s.heap env fr) {k : Nat} {nm : Str} {pos : Pos} {fl : Nat} {p : Arguments} {sc : Scope} {body : FuncBody} {fv cs : List Nat}
    (hm : md k nm pos p body sc = true) (hf : freesAre X.NM env.scope.names sc.names fv = true) (hcs : fv.mapM (lk fr.cel) = some cs) (hd : match body with | .stmts b => docOf b = none | .expr _ => True) {name : Str} :
    wpAny (Mx X) A (makeTail name (env.qual ++ nm) p body sc env .none .none none pos fl) (EP X ρ s.heap (.clo k cs) H) No s := by
  obtain ⟨m1, m2, t, ht, m3, m4, m5, m6⟩ := F.mkc _ _ _ _ _ _ hm
  obtain ⟨c1, c2⟩ := closure_rel F hf hcs
  have hfv : X.fv k = fv := frees_unique XO.inj m2 (freesIn_of hf)
  unfold makeTail
  refine wpAny_bind (closure_ok c1 ?_)
  have step : ∀ (cT : Value) (s1 : Shared), Keep s.heap s1.heap → s1.gens = s.gens → s1.os = s.os → wpAny (Mx X) A (do
      let fd : FuncData := { name, qualname := env.qual ++ nm, params := p, body, scope := sc, globals := env.globals, closure := cloOf env.cells sc.names [], closureTuple := cT,
                              code := ← functionCode env pos fl name (env.qual ++ nm) p sc body, builtins := ← builtinsFor env.globals env.builtins,
                              defaults := .none, kwdefaults := .none, annotations := none, pyModule := (← nsGet env.globals "__name__").getD .none,
                              doc := ← match body with
                                | .stmts b => (match docOf b with | some s => mkText s | none => pure .none)
                                | .expr _ => pure .none }
      newObj (.type "function") (.func fd)) (EP X ρ s.heap (.clo k cs) H) No s1 := by
    intro cT s1 hk hg ho
    have S1 := S.grow hk hg ho
    have E1 : Ext X ρ s.heap ρ s1.heap := SOK.ext_keep hk
    rw [← m6]
    refine wpAny_bind (code_ok XO S1 ht m3 m4 m5 fun c' h' tk S2 E2 g => ?_)
    obtain ⟨bm, ob, b1, b2, b3, b4, b5, b6, b7⟩ := XO.bat
    have F2 := (F.step S E1).step S1 E2
    obtain ⟨g1, _⟩ := glb_load XO S2 F2
    have fin : ∀ fd : FuncData, X.mdd k fd.params fd.body fd.scope = true → fd.globals = mainGlobals → fd.builtins = builtinsNs → fd.defaults = .none → fd.kwdefaults = .none → fd.closure = cloOf env.cells sc.names [] → fd.code = .ref c' → fd.qualname = t.q →
        EP X ρ s.heap (.clo k cs) H (.ref h'.objs.size) { s1 with heap := h'.push { cls := .type "function", data := .func fd }, toks := tk } := by
      intro fd q1 q2 q3 q4 q5 q6 q7 q8
      have k3 : Keep h' (h'.push { cls := .type "function", data := .func fd }) := keep_push h' _
      refine EP.trans (E1.trans E2) (EP.grow (s := { s1 with heap := h', toks := tk }) (s' := { s1 with heap := h'.push { cls := .type "function", data := .func fd }, toks := tk }) S2 k3 rfl rfl ?_)
      have M3 : Mono h' (h'.push { cls := .type "function", data := .func fd }) := fun b o e _ => k3 b o e
      refine Exists.intro _ ⟨cloOf env.cells sc.names [], rfl, ⟨_, _, Heap.get?_push_size _ rfl, rfl, rfl, q1, q2, q3, q4, q5, q6, c', q7, by rw [q8]; exact g.mono M3⟩, ?_⟩
      rw [hfv]; exact c2
    refine wpAny_bind (wpAny_builtinsFor g1 b1 b2 (S2.base _ _ b3 b7) b4 b5 b6 (wpAny_bind (wpAny_nsGet g1 ?_)))
    cases body with
    | stmts b =>
      simp only at hd
      simp only [hd]
      exact wpAny_bind (wpAny_pure (wpAny_newObj_type (fin _ m1 F.glob rfl rfl rfl rfl rfl rfl)))
    | expr b => exact wpAny_bind (wpAny_pure (wpAny_newObj_type (fin _ m1 F.glob rfl rfl rfl rfl rfl rfl)))
  dsimp only
  split
  · exact wpAny_bind (wpAny_pure (step .none s (fun _ _ e => e) rfl rfl))
  · refine wpAny_bind (wpAny_newTextTuple (step _ _ (keep_push _ _) rfl rfl))
theorem make_ok (XO : XOK X G mg mb) (S : SOK X ρ H s) (F : FrR X md ρ s.heap env fr) {k : Nat} {nm : Str} {pos : Pos} {fl : Nat} {p : Arguments} {sc : Scope} {body : FuncBody} {fv cs : List Nat} (hp : plainArgs p = true)
    (hm : md k nm pos p body sc = true) (hf : freesAre X.NM env.scope.names sc.names fv = true) (hcs : fv.mapM (lk fr.cel) = some cs) (hd : match body with | .stmts b => docOf b = none | .expr _ => True) {name : Str} :
    wpAny (Mx X) A (makeFunction name (env.qual ++ nm) p body sc env [] [] [] pos fl) (EP X ρ s.heap (.clo k cs) H) No s := by
  have h : makeFunction name (env.qual ++ nm) p body sc env [] [] [] pos fl = makeTail name (env.qual ++ nm) p body sc env .none .none none pos fl := by
    obtain ⟨as, rfl, _⟩ := plainArgs_t hp
    rfl
  rw [h]
  exact make_tail XO S F hm hf hcs hd
theorem plain_dflt {a : Arguments} (ha : plainArgs a = true) : defaultsOf a env = ([], []) := by
  obtain ⟨as, rfl, _⟩ := plainArgs_t ha
  rfl
theorem lam_ok (XO : XOK X G mg mb) {k : Nat} {fv : List Nat} : EOK X G C d n md (.lam k fv) := by
  intro x A env fr ρ H H' s v' m e R S F
  refine xLam_e m fun _ _ _ _ m => and_e m fun m m3 => and_e m fun m1 m2 => i_lam e fun cs hcs => ?_
  rw [arm_eval_Lambda, plain_dflt m2]
  exact wpAny_bind (wpAny_pure (wpAny_bind (wpAny_holding (wpAny_pure (make_ok XO S F m2 m3 m1 hcs trivial)))))
end
end Rz
end Q11
section Q12
open PySem PySem.W PySem.Calls PyProof.Rows
namespace Rz
set_option linter.unusedVariables false
set_option linter.unusedSimpArgs false
set_option maxRecDepth 100000

/-! iterators -/
noncomputable def refV (c : Value) : Option Addr := valC none c (r := some)
noncomputable def auxOf (it : It) (c : Value) : Option Addr := It.casesOn (motive := fun _ => Option Addr) it (fun i k => refV c) (fun s => refV c) (fun x n z => refV c) (fun i => none)
structure Aux (X : Cx) (hb : Heap) (ρ : List Addr) (I : Addr) : Prop where
  nb : hb.get? I = none
  nr : I ∉ ρ
  nT : I ∉ X.TP
  n0 : X.h₀.get? I = none
noncomputable def ItR (X : Cx) (hb : Heap) (ρ : List Addr) (h : Heap) : It → Value → Prop
  | .lst i k, c => ∃ I l, c = .ref I ∧ ρ[i]? = some l ∧ h.IsListIter I l k ∧ Aux X hb ρ I
  | .str cs, c => ∃ I w t k, c = .ref I ∧ h.IsStrIter I (strIterType w) w t k ∧ w.cps.toList.drop k = cs ∧ Aux X hb ρ I
  | .rng x n st, c => ∃ I, c = .ref I ∧ IsRangeIter h I x n st ∧ Aux X hb ρ I
  | .obj i, c => ∃ a, c = .ref a ∧ ρ[i]? = some a
structure ExtB (X : Cx) (B : Option Addr) (ρ : List Addr) (h : Heap) (ρ' : List Addr) (h' : Heap) : Prop where
  pre : ρ <+: ρ'
  ch : ∀ b o, h.get? b = some o → b ∉ ρ → b ∉ X.TP → some b ≠ B → h'.get? b = some o
  new : ∀ a ∈ ρ', a ∉ ρ → h.get? a = none ∧ a ∉ X.TP
  mono : Mono h h'
structure CitOK (X : Cx) (C : Call) (d : Nat) : Prop where
  live : ∀ {A : Around} {ρ : List Addr} {H H1 : MH} {s : Shared} {i k j j' : Nat} {cs : List Nat} {a : Addr}, H[i]? = some (.cit k j true) → C (.bm k j) [] H = some (.str cs, H1) → H1[i]? = some (.cit k j' true) → Room A d → SOK X ρ H s → ρ[i]? = some a →
    wpAny (Mx X) A (pyNext (.ref a)) (fun o s' => ∃ ρ', Ext X ρ s.heap ρ' s'.heap ∧ (match cs with
      | [] => o = none ∧ SOK X ρ' (H1.set i (.cit k j false)) s'
      | _ :: _ => ∃ cv, o = some cv ∧ VR X s'.heap ρ' (.str cs) cv ∧ SOK X ρ' H1 s')) No s
  dead : ∀ {A : Around} {ρ : List Addr} {H : MH} {s : Shared} {i k j : Nat} {a : Addr}, H[i]? = some (.cit k j false) → Room A d → SOK X ρ H s → ρ[i]? = some a →
    wpAny (Mx X) A (pyNext (.ref a)) (fun o s' => o = none ∧ SP X ρ s.heap H s') No s

section
variable {X : Cx} {G : Gl} {C : Call} {d n : Nat} {md : Md} {A : Around} {ρ : List Addr} {H : MH} {s : Shared} {env : Env} {fr : Fr} {mg mb : Str → Option Value}

theorem Ext.toB {B : Option Addr} {ρ' h'} (S : SOK X ρ H s) (E : Ext X ρ s.heap ρ' h') : ExtB X B ρ s.heap ρ' h' := ⟨E.pre, fun b o e h1 h2 _ => E.ch b o e h1 h2, E.new, S.mono E⟩
theorem Ext.transB {B : Option Addr} {ρ0 h0 h ρ' h'} (a : Ext X ρ0 h0 ρ h) (b : ExtB X B ρ h ρ' h') (hB : ∀ I, B = some I → h0.get? I = none) : Ext X ρ0 h0 ρ' h' := by
  have key : ∀ x o, h0.get? x = some o → x ∉ ρ0 → x ∉ ρ := fun x o e n m => by
    have := (a.new x m n).1; rw [this] at e; cases e
  refine ⟨a.pre.trans b.pre, fun x o e n t => b.ch x o (a.ch x o e n t) (key x o e n) t (fun q => ?_), fun x m n => ?_⟩
  · have := hB x q.symm; rw [e] at this; cases this
  by_cases hm : x ∈ ρ
  · exact a.new x hm n
  · have z := b.new x m hm
    refine ⟨?_, z.2⟩
    cases q : h0.get? x with
    | none => rfl
    | some o => rw [a.ch x o q n z.2] at z; cases z.1
theorem FrR.stepB {B : Option Addr} {ρ' h'} (F : FrR X md ρ s.heap env fr) (E : ExtB X B ρ s.heap ρ' h') (hB : some env.locals ≠ B) : FrR X md ρ' h' env fr := by
  obtain ⟨m, hn, hl⟩ := F.loc
  refine ⟨F.kind, F.glob, F.blt, fun q => ?_, F.tL, F.bL, ⟨m, Ns.step hn fun x e => E.ch _ _ e F.nL F.tL hB, fun x v e => Exists.elim (hl x v e) fun c q => ⟨c, q.1, q.2.mono E.mono E.pre⟩⟩, fun x i e k => Exists.elim (F.cel x i e k) fun a q => ⟨a, pre_get E.pre q.1, q.2⟩, F.mkc⟩
  obtain ⟨x, h1, _⟩ := Ns.not_imm hn
  have := (E.new _ q F.nL).1
  rw [h1] at this; cases this
/-- an object that only a loop has: it turned -/
theorem SOK.aux {hb : Heap} {I : Addr} {o : Obj} {h' : Heap} {tk : Nat} (XO : XOK X G mg mb) (S : SOK X ρ H s) (x : Aux X hb ρ I) (g : s.heap.get? I = some o) (hi : imm o = false) (k : Heap.ExtBut I s.heap h') :
    SOK X ρ H { s with heap := h', toks := tk } ∧ ExtB X (some I) ρ s.heap ρ h' := by
  obtain ⟨S', M⟩ := S.other (s' := { s with heap := h', toks := tk }) (L := I) (fun b o n e => k b o n e) x.nr x.nT x.n0 (fun t ht e => by
    obtain ⟨⟨o, h⟩, _⟩ := XO.codes t ht
    rw [← e, x.n0] at h; cases h) ⟨o, g, hi⟩ rfl rfl
  exact ⟨S', List.prefix_refl _, fun b o e _ _ n => k b o (fun q => n (q ▸ rfl)) e, fun a h1 h2 => absurd h1 h2, M⟩
theorem Aux.step {hb : Heap} {I : Addr} {ρ' h'} {o : Obj} {B : Option Addr} (x : Aux X hb ρ I) (g : s.heap.get? I = some o) (E : ExtB X B ρ s.heap ρ' h') : Aux X hb ρ' I :=
  ⟨x.nb, fun m => (by have := (E.new _ m x.nr).1; rw [g] at this; cases this), x.nT, x.n0⟩
/-- a loop's iterator, when another step has been done -/
theorem ItR.stepB {hb : Heap} {ρ' h'} {it : It} {c : Value} {B : Option Addr} (i : ItR X hb ρ s.heap it c) (E : ExtB X B ρ s.heap ρ' h') (hB : ∀ I, auxOf it c = some I → some I ≠ B) : ItR X hb ρ' h' it c := by
  cases it with
  | lst i k =>
    obtain ⟨I, l, rfl, h1, ⟨o, h2, h3⟩, x⟩ := i
    exact ⟨I, l, rfl, pre_get E.pre h1, ⟨o, E.ch _ _ h2 x.nr x.nT (hB _ rfl), h3⟩, x.step h2 E⟩
  | str cs =>
    obtain ⟨I, w, t, k, rfl, ⟨o, h2, h3⟩, h4, x⟩ := i
    exact ⟨I, w, t, k, rfl, ⟨o, E.ch _ _ h2 x.nr x.nT (hB _ rfl), h3⟩, h4, x.step h2 E⟩
  | rng x n st =>
    obtain ⟨I, rfl, h2, x⟩ := i
    exact ⟨I, rfl, E.ch _ _ h2 x.nr x.nT (hB _ rfl), x.step h2 E⟩
  | obj i =>
    obtain ⟨a, rfl, h⟩ := i
    exact ⟨a, rfl, pre_get E.pre h⟩
theorem ItR.step {hb : Heap} {ρ' h'} {it : It} {c : Value} (i : ItR X hb ρ s.heap it c) (E : Ext X ρ s.heap ρ' h') (S : SOK X ρ H s) : ItR X hb ρ' h' it c :=
  i.stepB (E.toB (B := none) S) fun _ _ q => by cases q
theorem aux_base {hb : Heap} {h : Heap} {it : It} {c : Value} (i : ItR X hb ρ h it c) : ∀ I, auxOf it c = some I → hb.get? I = none := by
  intro I e
  cases it with
  | lst _ k => obtain ⟨I', l, rfl, _, _, x⟩ := i; cases e; exact x.nb
  | str cs => obtain ⟨I', w, t, k, rfl, _, _, x⟩ := i; cases e; exact x.nb
  | rng x n st => obtain ⟨I', rfl, _, x⟩ := i; cases e; exact x.nb
  | obj i => cases e
/-- the iterator is no frame -/
theorem data_ne {h : Heap} {a : Addr} {o o' : Obj} {es n fs} (e1 : h.get? a = some o) (e2 : h.get? a = some o') (d1 : o.data = .dict es n) (d2 : o'.data = .fields fs) : False := by
  rw [Option.some.inj (e1.symm.trans e2), d2] at d1
  exact nomatch d1
theorem aux_ne {hb : Heap} {it : It} {c : Value} {L : Addr} {m} (i : ItR X hb ρ s.heap it c) (hn : s.heap.Ns L m) : some L ≠ auxOf it c := by
  obtain ⟨o, es, ep, e, dd, _⟩ := hn
  intro q
  cases it with
  | lst _ k =>
    obtain ⟨I', l, rfl, _, ⟨o', h2, h3, h4⟩, x⟩ := i
    exact data_ne (Option.some.inj q ▸ e) h2 dd h4
  | str cs =>
    obtain ⟨I', w, t, k, rfl, ⟨o', h2, h3, h4⟩, _, x⟩ := i
    exact data_ne (Option.some.inj q ▸ e) h2 dd h4
  | rng x n st =>
    obtain ⟨I', rfl, h2, x⟩ := i
    exact data_ne (Option.some.inj q ▸ e) h2 dd rfl
  | obj i => exact no_some q.symm

/-- the end of a reversed list -/
theorem next_rev_end {it l : Addr} {E : Value → Shared → Prop} {Q : Option Value → Shared → Prop} (hh : A.handled = none) (hit : s.heap.IsRevIter it l (-1))
    (hQ : ∀ h', Keep s.heap h' → Q none { s with heap := h' }) : wpAny (Mx X) A (pyNext (.ref it)) Q E s := by
  obtain ⟨o, ho, hc, hd⟩ := id hit
  unfold pyNext
  refine wpAny_bind (wpAny_attempt (wpAny_callSpecial?_slot (name := Str.ofString "__next__") hit.typeIs F.slot_lri_next
    (wpAny_call_entry F.slot_lri_next hit.typeIs F.entry_lri_next ?_ (F.args_lri_next_1 _))))
  unfold Builtin.«list_reverseiterator.__next__»
  refine wpAny_bind (wpAny_of_eq (a := (Value.ref it, [])) rfl ?_)
  dsimp only
  refine wpAny_bind (wpAny_field ho hd (x := rawInt (-1)) rfl ?_)
  show wpAny _ _ (if (-1 : Int) < 0 then _ else _) _ _ s
  rw [if_pos (by decide)]
  refine wpAny_bind (wpAny_rule ?_)
  first
  | show wpAny _ _ (newExc (.type "StopIteration") [] >>= _) _ _ _
  | (refine wpAny_bind ?_; show wpAny _ _ (newExc (.type "StopIteration") [] >>= _) _ _ _)
  refine wpAny_bind ?_
  simp only [newExc, newTuple]
  refine wpAny_bind (wpAny_newObj_type ?_ (by size_fits))
  refine wpAny_bind (m := firstArgMember _ _) (wpAny_of_eq (a := Value.none) (by first | rfl | (simp only [firstArgMember]; rfl)) ?_)
  refine wpAny_newObj_type ?_ (by size_fits)
  unfold raiseNew
  refine wpAny_bind (wpAny_handled ?_)
  first | rw [show A.in1.handled = none from hh] | rw [hh]
  refine wpAny_bind (wpAny_pure (wpAny_throw ?_))
  refine wpAny_bind (wpAny_isInstance (T := "StopIteration") (b := true) ⟨_, Heap.get?_push_size _ rfl, rfl⟩ isSubtype_stop ?_)
  exact wpAny_pure (hQ _ fun b o e => Heap.get?_push_of_some _ (Heap.get?_push_of_some _ e))

/-- what a turn of a loop's head gives -/
noncomputable def NP (X : Cx) (hb : Heap) (ρ : List Addr) (h : Heap) (it : It) (c : Value) (r : Option (V × It)) (H' : MH) (o : Option Value) (s' : Shared) : Prop :=
  ∃ ρ', ExtB X (auxOf it c) ρ h ρ' s'.heap ∧ SOK X ρ' H' s' ∧ match r with
    | none => o = none
    | some (v, it') => ∃ cv, o = some cv ∧ VR X s'.heap ρ' v cv ∧ ItR X hb ρ' s'.heap it' c ∧ auxOf it' c = auxOf it c

@[elab_as_elim] theorem rh_e {P : Option (V × It) → MH → Prop} {a r : Option (V × It)} {b H' : MH} (e : some (a, b) = some (r, H')) (k : P a b) : P r H' := some_e (P := fun r => P r.1 r.2) e k
section
variable {hb : Heap} {c : Value} {r : Option (V × It)} {H' : MH}
theorem NP.stop {it : It} {s' : Shared} (p : SOK X ρ H s' ∧ ExtB X (auxOf it c) ρ s.heap ρ s'.heap) : NP X hb ρ s.heap it c none H none s' := ⟨ρ, p.2, p.1, rfl⟩
theorem NP.item {it it' : It} {s' : Shared} {v : V} {cv : Value} (p : SOK X ρ H s' ∧ ExtB X (auxOf it c) ρ s.heap ρ s'.heap) (r : VR X s'.heap ρ v cv) (i : ItR X hb ρ s'.heap it' c) (q : auxOf it' c = auxOf it c) : NP X hb ρ s.heap it c (some (v, it')) H (some cv) s' := ⟨ρ, p.2, p.1, cv, rfl, r, i, q⟩
theorem next_lst (XO : XOK X G mg mb) {i k : Nat} (e : nextI C (.lst i k) H = some (r, H')) (R : Room A d) (S : SOK X ρ H s) (it : ItR X hb ρ s.heap (.lst i k) c) : wpAny (Mx X) A (pyNext c) (NP X hb ρ s.heap (.lst i k) c r H') No s := by
  obtain ⟨I, l, rfl, h1, hit, x⟩ := it
  obtain ⟨o, h2, h3, h4⟩ := id hit
  have him : imm o = false := by unfold imm; rw [h4, h3]; rfl
  obtain ⟨vs, ev, e1⟩ := onLst_some e
  obtain ⟨items, nn, g, rv⟩ := S.obj i _ l ev h1
  have hl : s.heap.IsList l items.toArray := ⟨_, g, rfl, _, rfl⟩
  cases hv : vs[k]? with
  | some v =>
    rw [hv] at e1
    obtain ⟨cv, h5, h6⟩ := VRs.get rv hv
    exact rh_e e1 (wpAny_pyNext_list_item (x := cv) hit hl (by simpa using h5) fun h' a b =>
      have p := S.aux XO (tk := s.toks) x h2 him b.extBut
      NP.item p (h6.mono p.2.mono (List.prefix_refl _)) ⟨I, l, rfl, h1, a, x⟩ rfl)
  | none =>
    rw [hv] at e1
    exact rh_e e1 (wpAny_pyNext_list_end R.handled hit hl (by simpa using VRs.none_at rv hv) fun h' b => NP.stop (S.aux XO (tk := s.toks) x h2 him b))
theorem imm_str {o : Obj} {w : Str} {x : _} (h3 : o.cls = .type (strIterType w)) (h5 : o.data = .fields x) : imm o = false := by
  unfold imm; rw [h5, h3]; unfold strIterType
  show immC _ = false
  split <;> rfl
theorem next_strE {I : Addr} {w : Str} {t : PySem.Tok} {k : Nat} (hA : A.handled = none) (hit : s.heap.IsStrIter I (strIterType w) w t k) (hx : w.cps[k]? = none) {Q : Option Value → Shared → Prop} (hQ : ∀ h', Heap.ExtBut I s.heap h' → Q none { s with heap := h' }) : wpAny (Mx X) A (pyNext (.ref I)) Q No s := by
  unfold strIterType at hit
  cases ha : w.cps.all (· < 128)
  · rw [ha] at hit; exact wpAny_pyNext_wide_end hA hit hx hQ
  · rw [ha] at hit; exact wpAny_pyNext_ascii_end hA hit hx hQ
theorem next_strI {I : Addr} {w : Str} {t : PySem.Tok} {k c0 : Nat} (hit : s.heap.IsStrIter I (strIterType w) w t k) (hx : w.cps[k]? = some c0) {Q : Option Value → Shared → Prop}
    (hQ : ∀ h', h'.IsStrIter I (strIterType w) w t (k + 1) → Heap.SameBut I s.heap h' → Q (some (.str ⟨#[c0]⟩ s.toks)) { s with heap := h', toks := s.toks + 1 }) : wpAny (Mx X) A (pyNext (.ref I)) Q No s := by
  unfold strIterType at hit hQ
  cases ha : w.cps.all (· < 128)
  · rw [ha] at hit hQ; exact wpAny_pyNext_wide_item hit hx hQ
  · rw [ha] at hit hQ; exact wpAny_pyNext_ascii_item hit hx hQ
theorem next_str (XO : XOK X G mg mb) {cs : List Nat} (e : nextI C (.str cs) H = some (r, H')) (R : Room A d) (S : SOK X ρ H s) (it : ItR X hb ρ s.heap (.str cs) c) : wpAny (Mx X) A (pyNext c) (NP X hb ρ s.heap (.str cs) c r H') No s := by
  obtain ⟨I, w, t, k, rfl, hit, h4, x⟩ := it
  obtain ⟨o, h2, h3, h5⟩ := id hit
  have him := imm_str h3 h5
  cases cs with
  | nil =>
    refine rh_e e (next_strE R.handled hit ?_ fun h' b => NP.stop (S.aux XO (tk := s.toks) x h2 him b))
    have := List.drop_eq_nil_iff.mp h4
    rw [Array.getElem?_eq_none_iff]; simpa using this
  | cons c0 cs =>
    refine rh_e e (next_strI hit (c0 := c0) ?_ fun h' a b => NP.item (S.aux XO (tk := s.toks + 1) x h2 him b.extBut) VR.str ⟨I, w, t, k + 1, rfl, a, ?_, x⟩ rfl)
    · have : (w.cps.toList.drop k)[0]? = some c0 := by rw [h4]; rfl
      simpa using this
    · rw [← List.drop_drop, h4]; rfl
theorem next_rng (XO : XOK X G mg mb) {x0 st : Int} {n : Nat} (e : nextI C (.rng x0 n st) H = some (r, H')) (R : Room A d) (S : SOK X ρ H s) (it : ItR X hb ρ s.heap (.rng x0 n st) c) : wpAny (Mx X) A (pyNext c) (NP X hb ρ s.heap (.rng x0 n st) c r H') No s := by
  obtain ⟨I, rfl, hit, x⟩ := it
  cases n with
  | zero => exact rh_e e (wpAny_pyNext_range_end R.handled hit (by simp) fun h' b => NP.stop (S.aux XO (tk := s.toks) x hit rfl b))
  | succ n =>
    refine rh_e e (wpAny_pyNext_range_item hit (by (first | lia | omega)) fun h' a b => NP.item (S.aux XO (tk := s.toks + 1) x hit rfl b.extBut) VR.int ⟨I, rfl, ?_, x⟩ rfl)
    rw [show ((n : Nat) : Int) = ((n + 1 : Nat) : Int) - 1 by (first | lia | omega)]; exact a
theorem next_rit (XO : XOK X G mg mb) {i l : Nat} {z : Int} {a : Addr} (ev : H[i]? = some (.rit l z)) (e : rstI i l H z = some (r, H')) (R : Room A d) (S : SOK X ρ H s) (ha : ρ[i]? = some a) : wpAny (Mx X) A (pyNext (.ref a)) (NP X hb ρ s.heap (.obj i) (.ref a) r H') No s := by
  obtain ⟨b, hb1, hit⟩ := S.obj _ _ a ev ha
  cases z with
  | ofNat m =>
    obtain ⟨vs, el, e2⟩ := onLst_some e
    obtain ⟨v, hv, e3⟩ := onL_some e2
    refine rh_e e3 ?_
    obtain ⟨items, nn, g, rv⟩ := S.obj _ _ b el hb1
    obtain ⟨cv, h5, h6⟩ := VRs.get rv hv
    refine wpAny_pyNext_rev_item (x := cv) hit ⟨_, g, rfl, _, rfl⟩ (by simpa using h5) fun h' q1 q2 => ?_
    have p := S.upd (s' := { s with heap := h' }) (o' := .rit l ((m : Int) - 1)) ha q2.extBut (S.ne_code XO (List.mem_of_getElem? ha)) (fun _ => ⟨b, hb1, q1⟩) rfl rfl
    exact ⟨ρ, p.2.toB S, p.1, cv, rfl, h6.mono (S.mono p.2) (List.prefix_refl _), ⟨a, rfl, ha⟩, rfl⟩
  | negSucc m =>
    cases m with
    | succ m => exact no_some e
    | zero => exact rh_e e (next_rev_end R.handled hit fun h' k => ⟨ρ, (SOK.ext_keep k).toB S, S.grow (s' := { s with heap := h' }) k rfl rfl, rfl⟩)
theorem onCit_some {α : Type} {o : AO} {f : Nat → Option α} {r : α} (e : onCit o f = some r) : ∃ k j, o = .cit k j true ∧ f k = some r := by
  cases o <;> first | exact no_some e | skip
  rename_i k j b
  cases b with
  | true => exact ⟨k, j, rfl, e⟩
  | false => exact no_some e
theorem next_cit (CI : CitOK X C d) {i k j : Nat} {a : Addr} (ev : H[i]? = some (.cit k j true)) (e : citI C i k j H = some (r, H')) (R : Room A d) (S : SOK X ρ H s) (ha : ρ[i]? = some a) : wpAny (Mx X) A (pyNext (.ref a)) (NP X hb ρ s.heap (.obj i) (.ref a) r H') No s := by
  refine onL_e e fun p ec e2 => ?_
  obtain ⟨cs, ecs, e3⟩ := onS_some e2
  refine onL_e e3 fun o' ev' e4 => ?_
  obtain ⟨k', j', rfl, e5⟩ := onCit_some e4
  cases hk : Nat.beq k k' with
  | false => rw [hk] at e5; exact no_some e5
  | true =>
    rw [hk] at e5
    rw [← Nat.eq_of_beq_eq_true hk] at ev'
    refine wpAny_mono (CI.live ev (H1 := p.2) (cs := cs) (ec.trans (congrArg some (Prod.ext ecs rfl))) ev' R S ha) (fun o s' hs => Exists.elim hs fun ρ' hs => ?_) no_no
    cases cs with
    | nil => exact rh_e e5 ⟨ρ', hs.1.toB S, hs.2.2, hs.2.1⟩
    | cons c0 cs => exact rh_e e5 (Exists.elim hs.2 fun cv q => ⟨ρ', hs.1.toB S, q.2.2, cv, q.1, q.2.1, ⟨a, rfl, pre_get hs.1.pre ha⟩, rfl⟩)
theorem next_obj (XO : XOK X G mg mb) (CI : CitOK X C d) {i : Nat} (e : nextI C (.obj i) H = some (r, H')) (R : Room A d) (S : SOK X ρ H s) (it : ItR X hb ρ s.heap (.obj i) c) : wpAny (Mx X) A (pyNext c) (NP X hb ρ s.heap (.obj i) c r H') No s := by
  obtain ⟨a, rfl, ha⟩ := it
  obtain ⟨o, ev, e1⟩ := onL_some e
  cases o <;> first | exact no_some e1 | skip
  · rename_i k j b
    cases b with
    | true => exact next_cit CI ev e1 R S ha
    | false => exact rh_e e1 (wpAny_mono (CI.dead ev R S ha) (fun o s' hs => Exists.elim hs.2 fun ρ' q => ⟨ρ', q.1.toB S, q.2, hs.1⟩) no_no)
  · exact next_rit XO ev e1 R S ha
theorem next_ok (XO : XOK X G mg mb) (CI : CitOK X C d) {it : It} (e : nextI C it H = some (r, H')) (R : Room A d) (S : SOK X ρ H s) (i : ItR X hb ρ s.heap it c) :
    wpAny (Mx X) A (pyNext c) (NP X hb ρ s.heap it c r H') No s := by
  cases it with
  | lst i k => exact next_lst XO e R S i
  | str cs => exact next_str XO e R S i
  | rng x0 n st => exact next_rng XO e R S i
  | obj j => exact next_obj XO CI e R S i
end
end
end Rz
end Q12
section Q13
open PySem PySem.W PySem.Calls PyProof.Rows
namespace Rz
set_option linter.unusedVariables false
set_option linter.unusedSimpArgs false
set_option maxRecDepth 100000

section
variable {X : Cx} {G : Gl} {C : Call} {d n : Nat} {md : Md} {A : Around} {ρ : List Addr} {H : MH} {s : Shared} {env : Env} {fr : Fr} {mg mb : Str → Option Value}

theorem lk_put {α : Type} (l : List (Nat × α)) (x y : Nat) (v : α) : lk (put l x v) y = if y = x then some v else lk l y := by
  induction l with
  | nil =>
    unfold put lk
    rw [BT.beq_eq]
    by_cases h : x = y
    · subst h; simp
    · rw [decide_eq_false h, if_neg (Ne.symm h)]; rfl
  | cons p r ih =>
    obtain ⟨k, w⟩ := p
    unfold put
    rw [BT.beq_eq]
    by_cases h : k = x
    · subst h
      rw [decide_eq_true rfl]
      show (match Nat.beq k y with | true => some v | false => lk r y) = if y = k then some v else (match Nat.beq k y with | true => some w | false => lk r y)
      rw [BT.beq_eq]
      by_cases q : k = y
      · subst q; simp
      · rw [decide_eq_false q, if_neg (Ne.symm q)]
    · rw [decide_eq_false h]
      show (match Nat.beq k y with | true => some w | false => lk (put r x v) y) = if y = x then some v else (match Nat.beq k y with | true => some w | false => lk r y)
      rw [BT.beq_eq]
      by_cases q : k = y
      · subst q
        rw [decide_eq_true rfl, if_neg h]
      · rw [decide_eq_false q]
        exact ih
theorem wno {α : Type} {t : Sem α} {Q : α → Shared → Prop} {E : Value → Shared → Prop} (h : wpAny (Mx X) A t Q No s) : wpAny (Mx X) A t Q E s := wpAny_mono h (fun a s q => q) fun e s x => x.elim
theorem fr_hp (F : FrR X md ρ s.heap env fr) : (env.scope.kind == .class || (env.scope.kind == .module && env.locals != env.globals)) = false := by rw [F.kind]; rfl
/-- the frame's own names have turned -/
theorem SOK.locals (XO : XOK X G mg mb) (S : SOK X ρ H s) (F : FrR X md ρ s.heap env fr) {h' : Heap} {tk : Nat} (k : Heap.SameBut env.locals s.heap h') :
    SOK X ρ H { s with heap := h', toks := tk } ∧ ExtB X (some env.locals) ρ s.heap ρ h' := by
  obtain ⟨m, hn, hl⟩ := F.loc
  obtain ⟨o, g, hi⟩ := Ns.not_imm hn
  exact S.aux XO (hb := X.h₀) ⟨F.bL, F.nL, F.tL, F.bL⟩ g hi k.extBut
@[elab_as_elim] theorem fh_e {P : Fr → MH → Prop} {a r : Fr} {b H' : MH} (e : some (a, b) = some (r, H')) (k : P a b) : P r H' := some_e (P := fun r => P r.1 r.2) e k
/-- a name is bound -/
theorem stT_ok (XO : XOK X G mg mb) {t : Tg} {v : V} {fr' : Fr} {H' : MH} {id : Str} {c : Value} (e : stT t v fr H = some (fr', H')) (m : mTgN X.NM env.scope.names t id = true) (S : SOK X ρ H s) (F : FrR X md ρ s.heap env fr) (r : VR X s.heap ρ v c) :
    wpAny (Mx X) A (storeName env id c) (fun _ s' => SOK X ρ H' s' ∧ FrR X md ρ s'.heap env fr' ∧ ExtB X (some env.locals) ρ s.heap ρ s'.heap) No s := by
  cases t with
  | loc x =>
    refine and_e m fun m m3 => and_e m fun m1 m2 => fh_e e ?_
    obtain ⟨mm, hn, hl⟩ := F.loc
    refine nm_e (P := fun id => isK env.scope.names id .local = true → wpAny (Mx X) A (storeName env id c) _ No s) m1 (fun m2 => ?_) m2
    refine wpAny_storeName_local (isK_spec m2) hn (fun h' a b => ?_) (fr_hp F)
    have p := S.locals XO F (tk := s.toks + 1) b
    refine ⟨p.1, ⟨F.kind, F.glob, F.blt, F.nL, F.tL, F.bL, ⟨_, a, fun y w q => ?_⟩, fun y i q k => F.cel y i q k, F.mkc⟩, p.2⟩
    rw [lk_put] at q
    by_cases hy : y = x
    · subst hy
      rw [if_pos rfl] at q ⊢
      exact some_e q ⟨c, rfl, r.mono p.2.mono (List.prefix_refl _)⟩
    · rw [if_neg hy] at q
      rw [if_neg (fun z => hy (XO.inj _ _ z))]
      exact Exists.elim (hl y w q) fun c' h => ⟨c', h.1, h.2.mono p.2.mono (List.prefix_refl _)⟩
  | cel x =>
    refine and_e m fun m m3 => and_e m fun m1 m2 => bnd_e e fun i hi e => ?_
    obtain ⟨w, hw, e⟩ := onCel_some e
    refine fh_e e ?_
    refine nm_e (P := fun id => isK env.scope.names id .cell = true → wpAny (Mx X) A (storeName env id c) _ No s) m1 (fun m2 => ?_) m2
    obtain ⟨a, h1, h2⟩ := F.cel x i hi (.inl (isK_spec m2))
    obtain ⟨c0, hc, _⟩ := S.obj i _ a hw h1
    refine wpAny_storeName_cell F.kind (isK_spec m2) h2 hc (fun h' q1 q2 => ?_)
    have p := S.upd (s' := { s with heap := h' }) (o' := .cell (some v)) h1 q2.extBut (S.ne_code XO (List.mem_of_getElem? h1)) (fun m => ⟨_, q1, c, rfl, r.mono m (List.prefix_refl _)⟩) rfl rfl
    exact ⟨p.1, F.step S p.2, p.2.toB S⟩
theorem mTg_inv {ns : Ns} {NM : Nat → Str} {t : Tg} {x : Expr} (m : mTg NM ns t x = true) : ∃ id p, x = .Name id p ∧ mTgN NM ns t id = true := by
  cases t with
  | loc => exact xNam_e (P := fun x => ∃ id p, x = .Name id p ∧ mTgN NM ns (.loc _) id = true) m fun id p m => ⟨id, p, rfl, m⟩
  | cel => exact xNam_e (P := fun x => ∃ id p, x = .Name id p ∧ mTgN NM ns (.cel _) id = true) m fun id p m => ⟨id, p, rfl, m⟩

/-- the iterator of a value -/
theorem iter_ok (CI : ∀ {A : Around} {ρ : List Addr} {H : MH} {s : Shared} {i k j : Nat} {b : Bool} {a : Addr}, H[i]? = some (.cit k j b) → SOK X ρ H s → ρ[i]? = some a → wpAny (Mx X) A (pyIter (.ref a)) (fun c s' => c = .ref a ∧ s' = s) No s)
    {v : V} {j : It} {cv : Value} (e : iterOf v H = some j) (S : SOK X ρ H s) (r : VR X s.heap ρ v cv) :
    wpAny (Mx X) A (pyIter cv) (fun c s' => Keep s.heap s'.heap ∧ SOK X ρ H s' ∧ ItR X s.heap ρ s'.heap j c) No s := by
  have fin : ∀ o : Obj, Keep s.heap (s.heap.push o) ∧ SOK X ρ H { s with heap := s.heap.push o } ∧ Aux X s.heap ρ s.heap.objs.size := fun o =>
    ⟨keep_push _ _, S.grow (s' := { s with heap := s.heap.push o }) (keep_push _ _) rfl rfl, size_none _, (S.fresh (size_none _)).1, (S.fresh (size_none _)).2.1, (S.fresh (size_none _)).2.2⟩
  cases v <;> first | exact no_some e | skip
  · refine some_e e (VR.str_e r fun t => wpAny_pyIter_strU ?_)
    obtain ⟨a, b, c⟩ := fin { cls := .type (strIterType _), data := .fields #[.str _ t, .int 0 0] }
    exact ⟨a, b, _, _, t, 0, rfl, ⟨_, Heap.get?_push_size _ rfl, rfl, rfl⟩, rfl, c⟩
  · refine VR.ref_e r fun a ha => onL_e e fun o ev e => ?_
    cases o <;> first | exact no_some e | skip
    · obtain ⟨items, nn, g, rv⟩ := S.obj _ _ a ev ha
      refine some_e e (wpAny_pyIter_list ⟨_, g, rfl, _, rfl⟩ ?_)
      obtain ⟨q, b, c⟩ := fin { cls := .type "list_iterator", data := .fields #[.ref a, .int 0 0] }
      exact ⟨q, b, _, a, rfl, ha, ⟨_, Heap.get?_push_size _ rfl, rfl, rfl⟩, c⟩
    · exact some_e e (wpAny_mono (CI ev S ha) (fun c s' hs => by obtain ⟨rfl, rfl⟩ := hs; exact ⟨fun a o e => e, S, a, rfl, ha⟩) no_no)
    · obtain ⟨b, hb1, hit⟩ := S.obj _ _ a ev ha
      exact some_e e (wpAny_pyIter_revIter hit ⟨fun a o e => e, S, a, rfl, ha⟩)
  · refine ifs_e e fun hs => ?_
    obtain ⟨rr, t, u, w, rfl, hr⟩ := r
    refine wpAny_pyIter_range hr hs ?_
    obtain ⟨q, b, c⟩ := fin { cls := .type "range_iterator", data := .fields #[rawInt _, rawInt (Builtin.Range.rangeSize _ _ _), rawInt _] }
    refine ⟨q, b, _, rfl, ?_, c⟩
    rw [Int.toNat_of_nonneg (rangeSize_nonneg _ _ _)]
    exact Heap.get?_push_size _ rfl
/-- the iterator of an iterator is it -/
theorem iter2_ok (CI : ∀ {A : Around} {ρ : List Addr} {H : MH} {s : Shared} {i k j : Nat} {b : Bool} {a : Addr}, H[i]? = some (.cit k j b) → SOK X ρ H s → ρ[i]? = some a → wpAny (Mx X) A (pyIter (.ref a)) (fun c s' => c = .ref a ∧ s' = s) No s)
    {hb : Heap} {j : It} {c : Value} {E : Value → Shared → Prop} {Q : Value → Shared → Prop} (e : ∀ i, j = .obj i → (∃ k j b, H[i]? = some (.cit k j b)) ∨ ∃ l n, H[i]? = some (.rit l n)) (S : SOK X ρ H s) (i : ItR X hb ρ s.heap j c) (q : Q c s) :
    wpAny (Mx X) A (pyIter c) Q E s := by
  cases j with
  | lst i k => obtain ⟨I, l, rfl, h1, hit, x⟩ := i; exact wpAny_pyIter_listiter hit q
  | str cs =>
    obtain ⟨I, w, t, k, rfl, hit, h4, x⟩ := i
    unfold strIterType at hit
    cases ha : w.cps.all (· < 128)
    · rw [ha] at hit; exact wpAny_pyIter_striter_wide hit q
    · rw [ha] at hit; exact wpAny_pyIter_striter_ascii hit q
  | rng x n st => obtain ⟨I, rfl, hit, x⟩ := i; exact wpAny_pyIter_rangeiter hit q
  | obj i =>
    obtain ⟨a, rfl, ha⟩ := i
    rcases e i rfl with ⟨k, j, b, ev⟩ | ⟨l, n, ev⟩
    · exact wno (wpAny_mono (CI ev S ha) (fun c s' hs => by obtain ⟨rfl, rfl⟩ := hs; exact q) no_no)
    · obtain ⟨b, hb1, hit⟩ := S.obj _ _ a ev ha
      exact wpAny_pyIter_revIter hit q
theorem iterO_obj {o : AO} {i j : Nat} (e : iterO j o = some (.obj i)) : j = i ∧ ((∃ k j b, o = .cit k j b) ∨ ∃ l n, o = .rit l n) := by
  cases o <;> first | exact no_some e | skip
  · exact nomatch (show It.lst j 0 = .obj i from Option.some.inj e)
  · cases e; exact ⟨rfl, .inl ⟨_, _, _, rfl⟩⟩
  · cases e; exact ⟨rfl, .inr ⟨_, _, rfl⟩⟩
theorem iterOf_obj {v : V} {i : Nat} (e : iterOf v H = some (.obj i)) : (∃ k j b, H[i]? = some (.cit k j b)) ∨ ∃ l n, H[i]? = some (.rit l n) := by
  cases v <;> first | exact no_some e | skip
  · exact nomatch (show It.str _ = .obj i from Option.some.inj e)
  · obtain ⟨o, ev, e1⟩ := onL_some e
    obtain ⟨rfl, q⟩ := iterO_obj e1
    rw [ev]
    exact q.imp (fun ⟨k, j, b, q⟩ => ⟨k, j, b, congrArg some q⟩) fun ⟨l, n, q⟩ => ⟨l, n, congrArg some q⟩
  · exact nomatch (show It.rng _ _ _ = .obj i from (if_some e).2)
theorem push_ok (XO : XOK X G mg mb) {i : Nat} {v : V} {H' : MH} {a : Addr} {c : Value} {E : Value → Shared → Prop} (e : pushAt H i v = some H') (S : SOK X ρ H s) (ha : ρ[i]? = some a) (rd : VR X s.heap ρ v c) :
    wpAny (Mx X) A (call (.builtin "list.append") [.ref a, c]) (fun _ s' => SOK X ρ H' s' ∧ Ext X ρ s.heap ρ s'.heap) E s := by
  refine onL_e e fun vs ev e => ifs_e e fun hs => ?_
  obtain ⟨it, n, g, r⟩ := S.obj i _ a (listAt_some ev) ha
  have hi := ha
  have hz : it.toArray.size ≤ sizeLine := by rw [List.size_toArray, VRs.length r, sizeLine_eq]; exact Nat.le_trans hs (by decide)
  refine call_meets PySem.F.slot_list_append ⟨_, g, rfl⟩ PySem.F.entry_list_append (PySem.F.args_list_append_2 _ _) (list_append a it.toArray n c hz) ⟨g, ?_⟩
  exact S.updList XO (fun x => x.push c) (ys := it ++ [c]) hi g (by show it.toArray.push c = _; simp) (VRs.append r (VRs.single rd)) s.toks
end
end Rz
end Q13
section Q14
open PySem PySem.W PySem.Calls PyProof.Rows
namespace Rz
set_option linter.unusedVariables false
set_option linter.unusedSimpArgs false
set_option maxRecDepth 100000

structure CitI (X : Cx) : Prop where
  it : ∀ {A : Around} {ρ : List Addr} {H : MH} {s : Shared} {i k j : Nat} {b : Bool} {a : Addr}, H[i]? = some (.cit k j b) → SOK X ρ H s → ρ[i]? = some a → wpAny (Mx X) A (pyIter (.ref a)) (fun c s' => c = .ref a ∧ s' = s) No s

section
variable {X : Cx} {G : Gl} {C : Call} {d n : Nat} {md : Md} {A : Around} {ρ : List Addr} {H : MH} {s : Shared} {env : Env} {fr : Fr} {mg mb : Str → Option Value}

theorem own_eq (F : FrR X md ρ s.heap env fr) (sc : Scope) : (relabel sc env).names = ownNs env.scope.names sc.names := by
  unfold relabel ownNs
  simp only [F.kind]
  simp [Env.kindOf]
theorem lookup_map_kind {f : Str × NameKind → Str × NameKind} (hf : ∀ p, (f p).1 = p.1) {ns : Ns} {m : Str} {k : NameKind} (h : (ns.map f).lookup m = some k) : ∃ k', (m, k') ∈ ns ∧ f (m, k') = (m, k) := by
  induction ns with
  | nil => exact no_some h
  | cons p r ih =>
    obtain ⟨m', k'⟩ := p
    rw [List.map_cons] at h
    have e := hf (m', k')
    rw [show f (m', k') = ((f (m', k')).1, (f (m', k')).2) from rfl, e, lookup_cons_eq] at h
    by_cases q : m = m'
    · rw [if_pos q] at h
      subst q
      exact ⟨k', List.mem_cons_self .., Prod.ext e (Option.some.inj h)⟩
    · rw [if_neg q] at h
      exact Exists.elim (ih h) fun k'' h => ⟨k'', List.mem_cons_of_mem _ h.1, h.2⟩
theorem mem_of_lookup' {ns : Ns} {m : Str} {k : NameKind} (h : ns.lookup m = some k) : (m, k) ∈ ns := by
  have := lookup_map_kind (f := id) (fun _ => rfl) (ns := ns) (m := m) (k := k) (by rw [List.map_id]; exact h)
  obtain ⟨k', h1, h2⟩ := this
  cases h2; exact h1

structure CompSc (X : Cx) (ns : Ns) (id : Str) (fv : List Nat) (sc : Scope) : Prop where
  kind : sc.kind = .function
  frees : freesAre X.NM ns sc.names fv = true
  var : sc.names.lookup id = some .local
  names : ∀ z ∈ sc.names, z.2 = .local → sc.names.lookup z.1 = some .local
  ok : okN id = true
theorem compSc_spec {ns : Ns} {id : Str} {fv : List Nat} {sc : Scope} (h : compSc X.NM ns id fv sc = true) : CompSc X ns id fv sc := by
  unfold compSc at h
  simp only [Bool.and_eq_true, decide_eq_true_eq] at h
  obtain ⟨⟨⟨⟨⟨⟨h1, h2⟩, h3⟩, h4⟩, h5⟩, h6⟩, h7⟩ := h
  refine ⟨h1, h2, isK_spec h3, fun z hz e => ?_, h5⟩
  have := List.all_eq_true.mp h7 z hz
  rw [e] at this
  simpa using this
theorem no_cells {ns sc : Ns} {fv : List Nat} (h : freesAre X.NM ns sc fv = true) : ∀ x ∈ sc, x.2 ≠ .cell := by
  induction sc generalizing fv with
  | nil => exact fun x hx => nomatch hx
  | cons p r ih =>
    obtain ⟨m, k⟩ := p
    cases k with
    | free => exact bc_e h fun y fv h => List.forall_mem_cons.mpr ⟨(fun q => nomatch q), ih (and_e h fun _ h => h)⟩
    | cell => exact nomatch (show false = true from h)
    | _ => exact List.forall_mem_cons.mpr ⟨(fun q => nomatch q), ih h⟩

theorem free_at (F : FrR X md ρ s.heap env fr) {id : Str} {fv : List Nat} {sc : Scope} (c : CompSc X env.scope.names id fv sc) (hfv : ∀ y ∈ fv, (lk fr.cel y).isSome = true) : FreeAt env.cells sc.names := fun m hm' => by
  obtain ⟨x, hx, rfl, hcf⟩ := frees_at c.frees m hm'
  obtain ⟨i, hi⟩ := Option.isSome_iff_exists.mp (hfv x hx)
  obtain ⟨a, _, ha⟩ := F.cel x i hi (isCF_spec hcf)
  rw [ha]; rfl
theorem Ext.bothB {B Cc : Addr} {ρ' : List Addr} {h1 h2 h3 : Heap} (a : Ext X ρ s.heap ρ' h1) (S : SOK X ρ H s) (hC : s.heap.get? Cc = none) (b : ExtB X (some B) ρ' h1 ρ' h2) (c : ExtB X (some Cc) ρ' h2 ρ' h3) : ExtB X (some B) ρ s.heap ρ' h3 := by
  have key : ∀ x o, s.heap.get? x = some o → x ∉ ρ → x ∉ ρ' := fun x o e n m => by
    have := (a.new x m n).1; rw [this] at e; cases e
  refine ⟨a.pre, fun x o e n t q => c.ch x o (b.ch x o (a.ch x o e n t) (key x o e n) t q) (key x o e n) t fun z => ?_, fun x m n => ⟨(a.new x m n).1, (a.new x m n).2⟩, fun x o e i => c.mono x o (b.mono x o (S.mono a x o e i) i) i⟩
  cases z; rw [hC] at e; cases e
/-- the comprehension's own frame -/
theorem comp_frame (F : FrR X md ρ s.heap env fr) {id : Str} {fv : List Nat} {sc : Scope} (c : CompSc X env.scope.names id fv sc) (hFA : FreeAt env.cells sc.names) {Cc : Addr} {loc : List (Nat × V)} (h1 : Cc ∉ ρ) (h2 : Cc ∉ X.TP) (h3 : X.h₀.get? Cc = none)
    (hl : ∃ m, s.heap.Ns Cc m ∧ ∀ x v, lk loc x = some v → ∃ c, m (X.NM x) = some c ∧ VR X s.heap ρ v c) : FrR X md ρ s.heap (compEnvC sc (cloOf env.cells sc.names []) Cc env) ⟨loc, fr.cel⟩ := by
  refine ⟨c.kind, F.glob, F.blt, h1, h2, h3, hl, fun x i e k => ?_, F.mkc⟩
  have hm : (X.NM x, NameKind.free) ∈ sc.names := by
    have key : ∀ k : NameKind, (k = .cell ∨ k = .free) → (ownNs env.scope.names sc.names).lookup (X.NM x) = some k → (X.NM x, NameKind.free) ∈ sc.names := by
      intro k hk e
      unfold ownNs at e
      obtain ⟨k', h1, h2⟩ := lookup_map_kind (fun p => by dsimp only; split <;> rfl) e
      have hnc := no_cells c.frees _ h1
      dsimp only at h2
      split at h2
      · rename_i q
        rw [Bool.and_eq_true, beq_iff_eq] at q
        rw [← q.1]; exact h1
      · cases h2
        rcases hk with rfl | rfl
        · exact absurd rfl hnc
        · exact h1
    rw [← own_eq F] at key
    rcases k with k | k
    · exact key _ (.inl rfl) k
    · exact key _ (.inr rfl) k
  obtain ⟨y, _, hy, hcf⟩ := frees_at c.frees _ hm
  obtain ⟨a, ha1, ha2⟩ := F.cel x i e (isCF_spec hcf)
  refine ⟨a, ha1, ?_⟩
  obtain ⟨b, hb⟩ := Option.isSome_iff_exists.mp (cloOf_has sc.names [] hFA _ hm)
  have := cloOf_sound sc.names [] (fun n a e => by simp at e) _ _ hb
  rw [ha2] at this; cases this
  exact hb

noncomputable abbrev testsOf (ifs : List Expr) (cenv : Env) : Sem Bool := forIn ifs true fun c r => if r = true then do let ok ← isTrue c cenv (eval c cenv); pure (ForInStep.yield ok) else pure (ForInStep.yield r)

theorem it_kept {i : Nat} {o : AO} (h : (∃ k j b, H[i]? = some (.cit k j b)) ∨ ∃ l n, H[i]? = some (.rit l n)) : (∃ k j b, (H ++ [o])[i]? = some (.cit k j b)) ∨ ∃ l n, (H ++ [o])[i]? = some (.rit l n) := by
  have key : ∀ {x : AO}, H[i]? = some x → (H ++ [o])[i]? = some x := fun e => by
    rw [List.getElem?_append_left (List.getElem?_eq_some_iff.mp e).1]; exact e
  rcases h with ⟨k, j, b, e⟩ | ⟨l, n, e⟩
  · exact .inl ⟨k, j, b, key e⟩
  · exact .inr ⟨l, n, key e⟩
theorem isSet_plain {α : Expr} {env : Env} (h : isSet α = false) : ∀ x, foldedSetIterable α env x = pure x := fun x => by
  cases α <;> first | rfl | exact nomatch (show true = false from h)
theorem compL_e {nx : It → MH → Option (Option (V × It) × MH)} {cond : V → MH → Option (Bool × MH)} {elt : V → MH → Option (V × MH)} {acc k : Nat} {it : It} {h r : MH} {Q : Prop} (e : compL nx cond elt acc (k + 1) it h = some r) (k1 : nx it h = some (none, r) → Q)
    (k2 : ∀ v it' h1, nx it h = some (some (v, it'), h1) → (∀ h2, cond v h1 = some (false, h2) → compL nx cond elt acc k it' h2 = some r → Q) ∧ ∀ h2 w h3 h4, cond v h1 = some (true, h2) → elt v h2 = some (w, h3) → pushAt h3 acc w = some h4 → compL nx cond elt acc k it' h4 = some r → Q) : Q :=
  bnd_e e fun p e1 e => by
    obtain ⟨o, h1⟩ := p
    cases o with
    | none => exact k1 (e1.trans (congrArg (fun r => some (none, r)) (Option.some.inj e)))
    | some x =>
      refine bnd_e (o := cond x.1 h1) e fun b e2 e => bif_e e (fun g e => ?_) fun g e => (k2 x.1 x.2 h1 e1).1 b.2 (pr_e e2 g) e
      exact bnd_e e fun w e3 e => bnd_e e fun h4 e4 e => (k2 x.1 x.2 h1 e1).2 b.2 w.1 w.2 h4 (pr_e e2 g) e3 e4 e
/-- the loop of a comprehension, turn by turn -/
structure LInv (X : Cx) (md : Md) (hb : Heap) (ρ1 : List Addr) (itv : Value) (D : Addr) (i1 : Nat) (env : Env) (fr : Fr) (cenv : Env) (loc : List (Nat × V)) (ρ : List Addr) (H : MH) (it : It) (s : Shared) : Prop where
  S : SOK X ρ H s
  E : Ext X ρ1 hb ρ s.heap
  I : ItR X hb ρ s.heap it itv
  F : FrR X md ρ s.heap env fr
  CF : FrR X md ρ s.heap cenv ⟨loc, fr.cel⟩
  dd : ρ[i1]? = some D
  hC : hb.get? cenv.locals = none
  hL : env.locals ≠ cenv.locals
section
variable {hb : Heap} {ρ1 ρ' : List Addr} {itv : Value} {D : Addr} {i1 : Nat} {cenv : Env} {loc : List (Nat × V)} {it it' : It} {H' : MH} {s' : Shared}
theorem LInv.step (L : LInv X md hb ρ1 itv D i1 env fr cenv loc ρ H it s) (E : Ext X ρ s.heap ρ' s'.heap) (S : SOK X ρ' H' s') : LInv X md hb ρ1 itv D i1 env fr cenv loc ρ' H' it s' :=
  ⟨S, L.E.trans E, L.I.step E L.S, L.F.step L.S E, L.CF.step L.S E, pre_get E.pre L.dd, L.hC, L.hL⟩
theorem LInv.drop (L : LInv X md hb ρ1 itv D i1 env fr cenv loc ρ H it s) : LInv X md hb ρ1 itv D i1 env fr cenv [] ρ H it s :=
  ⟨L.S, L.E, L.I, L.F, ⟨L.CF.kind, L.CF.glob, L.CF.blt, L.CF.nL, L.CF.tL, L.CF.bL, Exists.elim L.CF.loc fun m q => ⟨m, q.1, fun x v e => no_some e⟩, L.CF.cel, L.CF.mkc⟩, L.dd, L.hC, L.hL⟩
theorem LInv.turn (L : LInv X md hb ρ1 itv D i1 env fr cenv loc ρ H it s) (E : ExtB X (auxOf it itv) ρ s.heap ρ' s'.heap) (S : SOK X ρ' H' s') (I : ItR X hb ρ' s'.heap it' itv) : LInv X md hb ρ1 itv D i1 env fr cenv loc ρ' H' it' s' :=
  ⟨S, L.E.transB E (aux_base L.I), I, L.F.stepB E (Exists.elim L.F.loc fun m q => aux_ne L.I q.1), L.CF.stepB E (Exists.elim L.CF.loc fun m q => aux_ne L.I q.1), pre_get E.pre L.dd, L.hC, L.hL⟩
theorem LInv.item (L : LInv X md hb ρ1 itv D i1 env fr cenv loc ρ H it s) (XO : XOK X G mg mb) (CI : CitOK X C d) {v : V} (e : nextI C it H = some (some (v, it'), H')) (R : Room A d) {Q : Option Value → Shared → Prop} {E : Value → Shared → Prop}
    (k : ∀ ρ' s' cv, LInv X md hb ρ1 itv D i1 env fr cenv loc ρ' H' it' s' → VR X s'.heap ρ' v cv → Q (some cv) s') : wpAny (Mx X) A (pyNext itv) Q E s :=
  wno (wpAny_mono (next_ok XO CI e R L.S L.I) (fun o s6 h6 => by
    obtain ⟨ρ6, EB6, S6, cv, rfl, rv, I6, ax6⟩ := h6
    exact k ρ6 s6 cv (L.turn EB6 S6 I6) rv) no_no)
theorem LInv.stop (L : LInv X md hb ρ1 itv D i1 env fr cenv loc ρ H it s) (XO : XOK X G mg mb) (CI : CitOK X C d) (e : nextI C it H = some (none, H')) (R : Room A d) {Q : Option Value → Shared → Prop} {E : Value → Shared → Prop}
    (k : ∀ ρ' s', Ext X ρ1 hb ρ' s'.heap → SOK X ρ' H' s' → FrR X md ρ' s'.heap env fr → FrR X md ρ' s'.heap cenv ⟨loc, fr.cel⟩ → ρ'[i1]? = some D → Q none s') : wpAny (Mx X) A (pyNext itv) Q E s :=
  wno (wpAny_mono (next_ok XO CI e R L.S L.I) (fun o s6 h6 => by
    obtain ⟨ρ6, EB6, S6, rfl⟩ := h6
    exact k ρ6 s6 (L.E.transB EB6 (aux_base L.I)) S6 (L.F.stepB EB6 (Exists.elim L.F.loc fun m q => aux_ne L.I q.1)) (L.CF.stepB EB6 (Exists.elim L.CF.loc fun m q => aux_ne L.I q.1)) (pre_get EB6.pre L.dd)) no_no)
theorem LInv.bind (L : LInv X md hb ρ1 itv D i1 env fr cenv [] ρ H it s) (XO : XOK X G mg mb) {x : Nat} {px : Pos} {v : V} {cv : Value} (hv : mTgN X.NM cenv.scope.names (.loc x) (X.NM x) = true) (rv : VR X s.heap ρ v cv) {Q : Unit → Shared → Prop} {E : Value → Shared → Prop}
    (k : ∀ s', LInv X md hb ρ1 itv D i1 env fr cenv [(x, v)] ρ H it s' → Q () s') : wpAny (Mx X) A (assign (.Name (X.NM x) px) cenv cv) Q E s :=
  wpAny_assign_Name (wno (wpAny_mono (stT_ok XO (t := .loc x) (fr' := ⟨[(x, v)], fr.cel⟩) rfl hv L.S L.CF rv) (fun u s7 h7 => by
    obtain ⟨S7, CF7, EB7⟩ := h7
    refine k s7 ⟨S7, L.E.transB EB7 fun I q => Option.some.inj q ▸ L.hC, L.I.stepB EB7 fun I q z => ?_, L.F.stepB EB7 fun q => L.hL (Option.some.inj q), CF7, L.dd, L.hC, L.hL⟩
    exact Exists.elim L.CF.loc fun m n => aux_ne L.I n.1 (z.symm.trans q.symm)) no_no))
end
/-- what is not there after a step was not there ahead of it -/
theorem notYet {ρ1 : List Addr} {h1 : Heap} {Cc D : Addr} (S : SOK X ρ H s) (E1 : Ext X ρ s.heap ρ1 h1) (f1 : Cc ∉ ρ1 ++ [D]) (f2 : Cc ∉ X.TP) (hC1 : h1.get? Cc = none) : s.heap.get? Cc = none := by
  cases q : s.heap.get? Cc with
  | none => rfl
  | some o =>
    rw [E1.ch _ _ q (fun z => f1 (List.mem_append_left _ (List.IsPrefix.subset E1.pre z))) f2] at hC1
    exact no_some hC1.symm
theorem comp_core (XO : XOK X G mg mb) (CI : CitOK X C d) (CT : CitI X) {x : Nat} {px : Pos} {fv : List Nat} {elt iter : Expr} {ifs : List Expr} {sc : Scope} {pos : Pos} {condF : V → MH → Option (Bool × MH)} {eltF : V → MH → Option (V × MH)}
    {vi : V} {j : It} {H1 H2 : MH} (c : CompSc X env.scope.names (X.NM x) fv sc) (hset : isSet iter = false) (hfv : ∀ y ∈ fv, (lk fr.cel y).isSome = true) (R : Room A d) (S : SOK X ρ H s) (F : FrR X md ρ s.heap env fr)
    (hit : wpAny (Mx X) A (eval iter env) (EP X ρ s.heap vi H1) No s) (ej : iterOf vi H1 = some j) (ec : compL (nextI C) condF eltF H1.length n j (H1 ++ [.list []]) = some H2)
    (hcond : ∀ {v : V} {H H' : MH} {b : Bool} {cenv : Env} {ρ : List Addr} {s : Shared}, condF v H = some (b, H') → cenv.scope.names = ownNs env.scope.names sc.names → SOK X ρ H s → FrR X md ρ s.heap cenv ⟨[(x, v)], fr.cel⟩ →
      wpAny (Mx X) A (testsOf ifs cenv) (BP X ρ s.heap b H') No s)
    (helt : ∀ {v w : V} {H H' : MH} {cenv : Env} {ρ : List Addr} {s : Shared}, eltF v H = some (w, H') → cenv.scope.names = ownNs env.scope.names sc.names → SOK X ρ H s → FrR X md ρ s.heap cenv ⟨[(x, v)], fr.cel⟩ →
      wpAny (Mx X) A (eval elt cenv) (EP X ρ s.heap w H') No s)
    {use : Option (Value → Sem Unit)} {Q : Value → Shared → Prop}
    (hfin : ∀ (ρ6 : List Addr) (s6 : Shared) (D : Addr) (cenv : Env), Ext X ρ s.heap ρ6 s6.heap → SOK X ρ6 H2 s6 → FrR X md ρ6 s6.heap env fr → FrR X md ρ6 s6.heap cenv ⟨[], fr.cel⟩ → ρ6[H1.length]? = some D → cenv.locals ≠ env.locals → s.heap.get? cenv.locals = none →
      compPost (Mx X) A No use Q (.ref D) cenv.locals (.ok .next) s6) :
    wpAny (Mx X) A (comprehension (.ListComp elt [⟨.Name (X.NM x) px, iter, ifs, 0⟩] sc pos) sc env (firstIterPos [⟨.Name (X.NM x) px, iter, ifs, 0⟩] pos) (newList []) (firstAsync [⟨.Name (X.NM x) px, iter, ifs, 0⟩]) (firstIter [⟨.Name (X.NM x) px, iter, ifs, 0⟩] env) use) Q No s := by
  have hFA := free_at F c hfv
  have hs : ∀ x, foldedSetIterable iter env x = pure x := fun x => isSet_plain hset x
  refine wpAny_comprehension_free (use := use) rfl hs (closure_eq hFA) c.kind c.names ?_
  refine ep_bind S F hit fun xv s1 ρ1 E1 S1 r1 F1 k1 => ?_
  refine wpAny_mono (iter_ok CT.it ej S1 r1) (fun it s2 h2 => ?_) no_no
  have K2 := h2.1
  have S2 := h2.2.1
  have I2 := h2.2.2
  have E2 : Ext X ρ1 s1.heap ρ1 s2.heap := SOK.ext_keep K2
  refine wpAny_newObj_type ?_ (by size_fits)
  obtain ⟨S3, E3⟩ := S2.alloc (s' := { s2 with heap := s2.heap.push { cls := .type "list", data := .seq ([] : List Value).toArray } }) (o := .list []) (keep_push _ _) (size_none _) ⟨[], 0, Heap.get?_push_size _ rfl, rfl⟩ rfl rfl
  generalize hD : s2.heap.objs.size = D at S3 E3 ⊢
  have F2 := F1.step S1 E2
  have F3 := F2.step S2 E3
  have I3 := I2.step E3 S2
  refine wpAny_newFunctionEnv (no_cells c.frees) (by intro y hy; simp at hy) (fun h4 n4 b4 => ?_) c.kind
  dsimp only at n4 b4 ⊢
  generalize hh3 : s2.heap.push { cls := .type "list", data := .seq ([] : List Value).toArray } = h3 at S3 E3 F3 I3 n4 b4 ⊢
  generalize hC : h3.objs.size = Cc at n4 b4 ⊢
  have hCn : h3.get? Cc = none := hC ▸ size_none _
  have K4 : Keep h3 h4 := fun b o e => b4.extBut b o (fun q => by rw [q, hCn] at e; cases e) (Heap.get?_push_of_some _ e)
  have S4 := S3.grow (s' := { s2 with heap := h4, toks := s2.toks + ([] : List (Str × Value)).length }) K4 rfl rfl
  have E4 : Ext X (ρ1 ++ [D]) h3 (ρ1 ++ [D]) h4 := SOK.ext_keep K4
  obtain ⟨f1, f2, f3⟩ := S3.fresh hCn
  have F4 := F3.step S3 E4
  have I4 := I3.step E4 S3
  have E14 : Ext X ρ1 s1.heap (ρ1 ++ [D]) h4 := (E2.trans E3).trans E4
  have hC1 : s1.heap.get? Cc = none := by
    cases q : s1.heap.get? Cc with
    | none => rfl
    | some o => rw [← hh3] at hCn; rw [Heap.get?_push_of_some _ (K2 _ _ q)] at hCn; cases hCn
  have hDr : (ρ1 ++ [D])[H1.length]? = some D := by rw [← S1.len, List.getElem?_append_right (Nat.le_refl _)]; simp
  have hLC : env.locals ≠ Cc := fun q => by
    obtain ⟨m, hn, _⟩ := F3.loc
    obtain ⟨o, g, _⟩ := Ns.not_imm hn
    rw [q, hCn] at g; cases g
  show codeAny _ _ (.compStart _ 0 it (.ref D) (compEnvC sc (cloOf env.cells sc.names []) Cc env)) (compPost (Mx X) A No use Q (.ref D) Cc) _
  have hsn : (compEnvC sc (cloOf env.cells sc.names []) Cc env).scope.names = ownNs env.scope.names sc.names := own_eq F sc
  have hvar : mTgN X.NM (compEnvC sc (cloOf env.cells sc.names []) Cc env).scope.names (.loc x) (X.NM x) = true := by
    have h : isK (compEnvC sc (cloOf env.cells sc.names []) Cc env).scope.names (X.NM x) .local = true := by
      unfold isK
      rw [show (compEnvC sc (cloOf env.cells sc.names []) Cc env).scope.names.lookup (X.NM x) = some .local from lookup_relabel_local c.var]
      rfl
    show (X.NM x == X.NM x && isK _ _ .local && okN _) = true
    rw [beq_self_eq_true, h, c.ok]
    rfl
  have loop : codeAny (Mx X) A (.compLoop (.ListComp elt [⟨.Name (X.NM x) px, iter, ifs, 0⟩] sc pos) 0 it (.ref D) (compEnvC sc (cloOf env.cells sc.names []) Cc env))
      (compPost (Mx X) A No use Q (.ref D) Cc) { s2 with heap := h4, toks := s2.toks + ([] : List (Str × Value)).length } := by
    refine codeAny_compLoop_tests (fun k s' => ∃ ρ' H' it', compL (nextI C) condF eltF H1.length k it' H' = some H2 ∧ LInv X md s1.heap ρ1 it D H1.length env fr (compEnvC sc (cloOf env.cells sc.names []) Cc env) [] ρ' H' it' s') ?_ n
      ⟨_, _, j, ec, ⟨S4, E14, I4, F4, comp_frame (loc := []) F4 c hFA f1 f2 f3 ⟨_, n4, fun x v q => no_some q⟩, hDr, hC1, hLC⟩⟩
    intro k s5 h5
    obtain ⟨ρ5, H5, it5, e5, L5⟩ := h5
    cases k with
    | zero => exact no_some e5
    | succ k =>
      refine compL_e e5 (fun en => ?_) fun v it6 H6 en => ⟨fun H8 e8 e5 => ?_, fun H8 w H9 H10 e8 e9 e10 e5 => ?_⟩
      · refine L5.stop XO CI en R fun ρ6 s6 E6 S6 F6 CF6 dd => ?_
        exact hfin ρ6 s6 D _ (E1.trans E6) S6 F6 CF6 dd (fun q => hLC q.symm) (notYet S E1 f1 f2 hC1)
      · refine L5.item XO CI en R fun ρ6 s6 cv L6 rv => L6.bind XO hvar rv fun s7 L7 => wno (wpAny_mono (hcond e8 hsn L7.S L7.CF) (fun ok s8 h8 => Exists.elim h8.2 fun ρ8 q => ?_) no_no)
        rw [h8.1]
        exact ⟨k, Nat.lt_succ_self k, ρ8, H8, it6, e5, (L7.step q.1 q.2).drop⟩
      · refine L5.item XO CI en R fun ρ6 s6 cv L6 rv => L6.bind XO hvar rv fun s7 L7 => wno (wpAny_mono (hcond e8 hsn L7.S L7.CF) (fun ok s8 h8 => Exists.elim h8.2 fun ρ8 q => ?_) no_no)
        rw [h8.1]
        have L8 := L7.step q.1 q.2
        refine wno (wpAny_mono (helt e9 hsn L8.S L8.CF) (fun cw s9 h9 => Exists.elim h9 fun ρ9 q => ?_) no_no)
        have L9 := L8.step q.1 q.2.1
        exact wpAny_mono (push_ok XO e10 L9.S L9.dd q.2.2) (fun u s10 q => ⟨k, Nat.lt_succ_self k, ρ9, H10, it6, e5, (L9.step q.2 q.1).drop⟩) fun e s x => x
  exact codeAny_compStart_list loop (iter2_ok CT.it (fun i q => by subst q; exact it_kept (iterOf_obj ej)) S4 I4 loop)
theorem comp_gen (XO : XOK X G mg mb) (CI : CitOK X C d) (CT : CitI X) {x : Nat} {px : Pos} {fv : List Nat} {elt iter : Expr} {ifs : List Expr} {sc : Scope} {pos : Pos} {condF : V → MH → Option (Bool × MH)} {eltF : V → MH → Option (V × MH)}
    {vi : V} {j : It} {H1 H2 : MH} (c : CompSc X env.scope.names (X.NM x) fv sc) (hset : isSet iter = false) (hfv : ∀ y ∈ fv, (lk fr.cel y).isSome = true) (R : Room A d) (S : SOK X ρ H s) (F : FrR X md ρ s.heap env fr)
    (hit : wpAny (Mx X) A (eval iter env) (EP X ρ s.heap vi H1) No s) (ej : iterOf vi H1 = some j) (ec : compL (nextI C) condF eltF H1.length n j (H1 ++ [.list []]) = some H2)
    (hcond : ∀ {v : V} {H H' : MH} {b : Bool} {cenv : Env} {ρ : List Addr} {s : Shared}, condF v H = some (b, H') → cenv.scope.names = ownNs env.scope.names sc.names → SOK X ρ H s → FrR X md ρ s.heap cenv ⟨[(x, v)], fr.cel⟩ →
      wpAny (Mx X) A (testsOf ifs cenv) (BP X ρ s.heap b H') No s)
    (helt : ∀ {v w : V} {H H' : MH} {cenv : Env} {ρ : List Addr} {s : Shared}, eltF v H = some (w, H') → cenv.scope.names = ownNs env.scope.names sc.names → SOK X ρ H s → FrR X md ρ s.heap cenv ⟨[(x, v)], fr.cel⟩ →
      wpAny (Mx X) A (eval elt cenv) (EP X ρ s.heap w H') No s) :
    wpAny (Mx X) A (eval (.ListComp elt [⟨.Name (X.NM x) px, iter, ifs, 0⟩] sc pos) env) (EP X ρ s.heap (.ref H1.length) H2) No s := by
  rw [eval_ListComp]
  refine comp_core XO CI CT c hset hfv R S F hit ej ec hcond helt (use := none) fun ρ6 s6 D cenv E6 S6 F6 CF6 dd hL hC => ?_
  refine Exists.elim CF6.loc fun m6 n6 => ⟨m6, n6.1, fun h7 b7 => ?_⟩
  have p := S6.locals XO CF6 (tk := s6.toks) b7
  exact ⟨ρ6, E6.transB p.2 (fun I q => Option.some.inj q ▸ hC), p.1, VR.ref dd⟩
/-- a list that is bound ahead of its loop's end -/
theorem comp_bind (XO : XOK X G mg mb) (CI : CitOK X C d) (CT : CitI X) {x : Nat} {px : Pos} {fv : List Nat} {elt iter : Expr} {ifs : List Expr} {sc : Scope} {pos : Pos} {condF : V → MH → Option (Bool × MH)} {eltF : V → MH → Option (V × MH)}
    {vi : V} {j : It} {H1 H2 : MH} (c : CompSc X env.scope.names (X.NM x) fv sc) (hset : isSet iter = false) (hfv : ∀ y ∈ fv, (lk fr.cel y).isSome = true) (R : Room A d) (S : SOK X ρ H s) (F : FrR X md ρ s.heap env fr)
    (hit : wpAny (Mx X) A (eval iter env) (EP X ρ s.heap vi H1) No s) (ej : iterOf vi H1 = some j) (ec : compL (nextI C) condF eltF H1.length n j (H1 ++ [.list []]) = some H2)
    (hcond : ∀ {v : V} {H H' : MH} {b : Bool} {cenv : Env} {ρ : List Addr} {s : Shared}, condF v H = some (b, H') → cenv.scope.names = ownNs env.scope.names sc.names → SOK X ρ H s → FrR X md ρ s.heap cenv ⟨[(x, v)], fr.cel⟩ →
      wpAny (Mx X) A (testsOf ifs cenv) (BP X ρ s.heap b H') No s)
    (helt : ∀ {v w : V} {H H' : MH} {cenv : Env} {ρ : List Addr} {s : Shared}, eltF v H = some (w, H') → cenv.scope.names = ownNs env.scope.names sc.names → SOK X ρ H s → FrR X md ρ s.heap cenv ⟨[(x, v)], fr.cel⟩ →
      wpAny (Mx X) A (eval elt cenv) (EP X ρ s.heap w H') No s)
    {t : Tg} {id : Str} {p : Pos} {fr' : Fr} {H3 : MH} (et : stT t (.ref H1.length) fr H2 = some (fr', H3)) (mt : mTgN X.NM env.scope.names t id = true) {Q : Unit → Shared → Prop}
    (hQ : ∀ ρ' s', ExtB X (some env.locals) ρ s.heap ρ' s'.heap → SOK X ρ' H3 s' → FrR X md ρ' s'.heap env fr' → Q () s') :
    wpAny (Mx X) A (evalThenUse (.ListComp elt [⟨.Name (X.NM x) px, iter, ifs, 0⟩] sc pos) env (assign (.Name id p) env)) Q No s := by
  show wpAny _ _ (comprehension _ _ _ _ _ _ _ (some (assign (.Name id p) env)) >>= fun _ => pure ()) _ _ _
  refine wpAny_bind (comp_core XO CI CT c hset hfv R S F hit ej ec hcond helt fun ρ6 s6 D cenv E6 S6 F6 CF6 dd hL hC => ?_)
  refine wpAny_assign_Name (wpAny_mono (stT_ok XO et mt S6 F6 (c := .ref D) (VR.ref dd)) (fun u s7 h7 => ?_) no_no)
  have CF7 := CF6.stepB h7.2.2 fun q => hL (Option.some.inj q)
  refine Exists.elim CF7.loc fun m7 n7 => ⟨m7, n7.1, fun h8 b8 => wpAny_pure ?_⟩
  have p := h7.1.locals XO CF7 (tk := s7.toks) b8
  exact hQ ρ6 _ (E6.bothB S hC h7.2.2 p.2) p.1 (h7.2.1.stepB p.2 fun q => hL (Option.some.inj q).symm)
end
end Rz
end Q14
section Q15
open PySem PySem.W PySem.Calls PyProof.Rows
namespace Rz
set_option linter.unusedVariables false
set_option linter.unusedSimpArgs false
set_option maxRecDepth 100000

section
variable {X : Cx} {G : Gl} {C : Call} {d n : Nat} {md : Md} {A : Around} {ρ : List Addr} {H : MH} {s : Shared} {env : Env} {fr : Fr} {mg mb : Str → Option Value} {NM : Nat → Str}

theorem tests_nil {cenv : Env} {Q : Bool → Shared → Prop} (h : Q true s) : wpAny (Mx X) A (testsOf [] cenv) Q No s := by
  unfold testsOf; rw [List.forIn_nil]; exact wpAny_pure h
theorem tests_one {cenv : Env} {c : Expr} {Q : Bool → Shared → Prop} (h : wpAny (Mx X) A (isTrue c cenv (eval c cenv)) Q No s) : wpAny (Mx X) A (testsOf [c] cenv) Q No s := by
  unfold testsOf
  rw [List.forIn_cons]
  simp only [if_true]
  refine wpAny_bind (wpAny_bind (wpAny_mono h (fun ok s1 q => wpAny_pure ?_) no_no))
  dsimp only
  rw [List.forIn_nil]
  exact wpAny_pure q
theorem all_some {fv : List Nat} (h : (fv.all fun y => (lk fr.cel y).isSome) = true) : ∀ y ∈ fv, (lk fr.cel y).isSome = true := List.all_eq_true.mp h
theorem mcomp_e {ns : Ns} {x : Nat} {fv : List Nat} {elt it : E} {e : Expr} {P : Expr → Prop} (m : mE NM md ns (.comp elt x it fv) e = true)
    (k : ∀ elt' p it' sc q, compSc NM ns (NM x) fv sc = true → isSet it' = false → mE NM md ns it it' = true → mE NM md (ownNs ns sc.names) elt elt' = true → P (.ListComp elt' [⟨.Name (NM x) p, it', [], 0⟩] sc q)) : P e := by
  refine xLC_e m fun elt' gens sc q m => b1_e m fun g m => ?_
  obtain ⟨tg, it', ifs, a⟩ := g
  refine xNam_e (x := tg) m fun id p m => b0_e (l := ifs) m fun m => and_e m fun m m5 => and_e m fun m m4 => and_e m fun m m3 => and_e m fun m m2 => and_e m fun m0 m1 => ?_
  cases of_decide_eq_true m0
  revert m2
  exact nm_e m1 fun m2 => k elt' p it' sc q m2 (neg_e m3) m4 m5
theorem mcompIf_e {ns : Ns} {x : Nat} {fv : List Nat} {elt it : E} {c : T} {e : Expr} {P : Expr → Prop} (m : mE NM md ns (.compIf elt x it c fv) e = true)
    (k : ∀ elt' p it' c' sc q, compSc NM ns (NM x) fv sc = true → isSet it' = false → mE NM md ns it it' = true → mT NM md (ownNs ns sc.names) c c' = true → mE NM md (ownNs ns sc.names) elt elt' = true → P (.ListComp elt' [⟨.Name (NM x) p, it', [c'], 0⟩] sc q)) : P e := by
  refine xLC_e m fun elt' gens sc q m => b1_e m fun g m => ?_
  obtain ⟨tg, it', ifs, a⟩ := g
  refine xNam_e (x := tg) m fun id p m => b1_e (l := ifs) m fun c' m => and_e m fun m m6 => and_e m fun m m5 => and_e m fun m m4 => and_e m fun m m3 => and_e m fun m m2 => and_e m fun m0 m1 => ?_
  cases of_decide_eq_true m0
  revert m2
  exact nm_e m1 fun m2 => k elt' p it' c' sc q m2 (neg_e m3) m4 m5 m6
theorem comp_ok (XO : XOK X G mg mb) (CI : CitOK X C d) (CT : CitI X) {elt it : E} {x : Nat} {fv : List Nat} (he : EOK X G C d n md elt) (hi : EOK X G C d n md it) : EOK X G C d n md (.comp elt x it fv) := by
  intro e A env fr ρ H H' s v' m ev R S F
  refine mcomp_e (P := fun e => wpAny (Mx X) A (eval e env) (EP X ρ s.heap v' H') No s) m fun elt' p it' sc q m1 m2 m3 m4 => i_comp ev fun vi h1 j h2 ei ej hall ec => ?_
  exact comp_gen XO CI CT (compSc_spec m1) m2 (all_some hall) R S F (hi m3 ei R S F) ej ec (fun {v H H' b cenv ρ s} e hn S F => some_e (P := fun r => wpAny (Mx X) A (testsOf [] cenv) (BP X ρ s.heap r.1 r.2) No s) e (tests_nil ⟨rfl, SP.same S⟩)) fun {v w H H' cenv ρ s} e hn S F => he (hn ▸ m4) e R S F
theorem compIf_ok (XO : XOK X G mg mb) (CI : CitOK X C d) (CT : CitI X) {elt it : E} {x : Nat} {fv : List Nat} {c : T} (he : EOK X G C d n md elt) (hi : EOK X G C d n md it) (hc : TOK X G C d n md c) : EOK X G C d n md (.compIf elt x it c fv) := by
  intro e A env fr ρ H H' s v' m ev R S F
  refine mcompIf_e (P := fun e => wpAny (Mx X) A (eval e env) (EP X ρ s.heap v' H') No s) m fun elt' p it' c' sc q m1 m2 m3 m5 m4 => i_compIf ev fun vi h1 j h2 ei ej hall ec => ?_
  exact comp_gen XO CI CT (compSc_spec m1) m2 (all_some hall) R S F (hi m3 ei R S F) ej ec (fun {v H H' b cenv ρ s} e hn S F => tests_one (hc (hn ▸ m5) e R S F)) fun {v w H H' cenv ρ s} e hn S F => he (hn ▸ m4) e R S F

/-- all that a step leans on -/
structure AllOK (X : Cx) (G : Gl) (C : Call) (d : Nat) (mg mb : Str → Option Value) : Prop where
  xo : XOK X G mg mb
  no : NamesOK X
  oo : ObjOK X G
  co : CallOK X C d
  ci : CitOK X C d
  ct : CitI X
theorem e_ok (K : AllOK X G C d mg mb) (e : E) : EOK X G C d n md e :=
  E.rec (motive_1 := fun e => EOK X G C d n md e) (motive_2 := fun es => LOK X G C d n md es ∧ BOK X G C d n md es) (motive_3 := fun t => TOK X G C d n md t) (motive_4 := fun ts => AOK X G C d n md ts)
    (fun v => lit_ok) (fun x => loc_ok) (fun x => cel_ok) (fun x => glb_ok K.xo) (fun op a b => bin_ok) (fun a => neg_ok) (fun a => inv_ok) (fun op a b => cmp_ok) (fun a => not_ok) (fun o e es he hs => bop_ok he hs.2) (fun t a b => ife_ok) (fun es h => lst_ok h.1) (fun es h => tup_ok h.1) (fun o i => idx_ok) (fun o lo hi => slc_ok) (fun o i => att_ok K.oo)
    (fun f args h hs => call_ok K.co h hs.1) (fun p args hs => prim_ok K.xo K.oo hs.1) (fun o i args h hs => mth_ok K.xo K.no K.oo K.co h hs.1) (fun elt x it fv => comp_ok K.xo K.ci K.ct) (fun elt x it c fv => compIf_ok K.xo K.ci K.ct) (fun k fv => lam_ok K.xo)
    ⟨lnil_ok, bnil_ok⟩ (fun e es h hs => ⟨lcons_ok h hs.1, bcons_ok h hs.2⟩) (fun e => tval_ok) (fun t => tnot_ok) (fun o ts => tbop_ok) (fun t a b => tife_ok) (fun op a b => tcmp_ok) anil_ok (fun t ts => acons_ok) e
theorem t_ok (K : AllOK X G C d mg mb) (e : T) : TOK X G C d n md e :=
  T.rec (motive_1 := fun e => EOK X G C d n md e) (motive_2 := fun es => LOK X G C d n md es ∧ BOK X G C d n md es) (motive_3 := fun t => TOK X G C d n md t) (motive_4 := fun ts => AOK X G C d n md ts)
    (fun v => lit_ok) (fun x => loc_ok) (fun x => cel_ok) (fun x => glb_ok K.xo) (fun op a b => bin_ok) (fun a => neg_ok) (fun a => inv_ok) (fun op a b => cmp_ok) (fun a => not_ok) (fun o e es he hs => bop_ok he hs.2) (fun t a b => ife_ok) (fun es h => lst_ok h.1) (fun es h => tup_ok h.1) (fun o i => idx_ok) (fun o lo hi => slc_ok) (fun o i => att_ok K.oo)
    (fun f args h hs => call_ok K.co h hs.1) (fun p args hs => prim_ok K.xo K.oo hs.1) (fun o i args h hs => mth_ok K.xo K.no K.oo K.co h hs.1) (fun elt x it fv => comp_ok K.xo K.ci K.ct) (fun elt x it c fv => compIf_ok K.xo K.ci K.ct) (fun k fv => lam_ok K.xo)
    ⟨lnil_ok, bnil_ok⟩ (fun e es h hs => ⟨lcons_ok h hs.1, bcons_ok h hs.2⟩) (fun e => tval_ok) (fun t => tnot_ok) (fun o ts => tbop_ok) (fun t a b => tife_ok) (fun op a b => tcmp_ok) anil_ok (fun t ts => acons_ok) e
end
end Rz
end Q15
section Q16
open PySem PySem.W PySem.Calls PyProof.Rows
namespace Rz
set_option linter.unusedVariables false
set_option linter.unusedSimpArgs false
set_option maxRecDepth 100000

section
variable {X : Cx} {G : Gl} {C : Call} {d n : Nat} {md : Md} {A : Around} {ρ : List Addr} {H : MH} {s : Shared} {env : Env} {fr : Fr} {mg mb : Str → Option Value} {NM : Nat → Str}

noncomputable def FlR (X : Cx) (h : Heap) (ρ : List Addr) : Fl → Flow → Prop
  | .nxt, f => f = .next
  | .cnt, f => f = .cont
  | .brk, f => f = .brk
  | .ret v, f => ∃ c, f = .ret c ∧ VR X h ρ v c
noncomputable def FP (X : Cx) (md : Md) (env : Env) (ρ : List Addr) (h : Heap) (fl : Fl) (fr' : Fr) (H' : MH) (f : Flow) (s' : Shared) : Prop :=
  ∃ ρ', ExtB X (some env.locals) ρ h ρ' s'.heap ∧ SOK X ρ' H' s' ∧ FrR X md ρ' s'.heap env fr' ∧ FlR X s'.heap ρ' fl f
noncomputable def StOK (X : Cx) (G : Gl) (C : Call) (d n : Nat) (md : Md) (st : St) : Prop := ∀ {x : Stmt} {A : Around} {env : Env} {fr fr' : Fr} {ρ : List Addr} {H H' : MH} {s : Shared} {fl : Fl},
  mS X.NM md env.scope.names st x = true → fS G C n st fr H = some (fl, fr', H') → Room A d → SOK X ρ H s → FrR X md ρ s.heap env fr → wpAny (Mx X) A (exec x env) (FP X md env ρ s.heap fl fr' H') No s
noncomputable def SsOK (X : Cx) (G : Gl) (C : Call) (d n : Nat) (md : Md) (st : Ss) : Prop := ∀ {x : List Stmt} {A : Around} {env : Env} {fr fr' : Fr} {ρ : List Addr} {H H' : MH} {s : Shared} {fl : Fl},
  mSs X.NM md env.scope.names st x = true → fSs G C n st fr H = some (fl, fr', H') → Room A d → SOK X ρ H s → FrR X md ρ s.heap env fr → wpAny (Mx X) A (execs x env) (FP X md env ρ s.heap fl fr' H') No s

theorem FrR.alive (F : FrR X md ρ s.heap env fr) : ∃ o, s.heap.get? env.locals = some o := by
  obtain ⟨m, hn, _⟩ := F.loc
  obtain ⟨o, g, _⟩ := Ns.not_imm hn
  exact ⟨o, g⟩
theorem ExtB.key {B : Option Addr} {ρ ρ' : List Addr} {h h' : Heap} (a : ExtB X B ρ h ρ' h') (x : Addr) (o : Obj) (e : h.get? x = some o) (n : x ∉ ρ) (m : x ∈ ρ') : False := no_some ((a.new x m n).1.symm.trans e)
theorem ExtB.two {B B' : Option Addr} {ρ ρ' ρ'' : List Addr} {h h' h'' : Heap} (a : ExtB X B ρ h ρ' h') (b : ExtB X B' ρ' h' ρ'' h'') (hB : ∀ I, B = some I → ∃ o, h'.get? I = some o) (hB' : ∀ x o, h.get? x = some o → some x ≠ B → some x ≠ B') : ExtB X B ρ h ρ'' h'' := by
  refine ⟨a.pre.trans b.pre, fun x o e n t q => b.ch x o (a.ch x o e n t q) (fun m => a.key x o e n m) t (hB' x o e q), fun x m n => ?_, fun x o e i => b.mono x o (a.mono x o e i) i⟩
  by_cases hm : x ∈ ρ'
  · exact a.new x hm n
  · have z := b.new x m hm
    refine ⟨?_, z.2⟩
    cases q : h.get? x with
    | none => rfl
    | some o =>
      by_cases hb : some x = B
      · exact Exists.elim (hB x hb.symm) fun o' g => no_some (z.1.symm.trans g)
      · exact no_some (z.1.symm.trans (a.ch x o q n z.2 hb))
theorem ExtB.trans {B : Option Addr} {ρ ρ' ρ'' : List Addr} {h h' h'' : Heap} (a : ExtB X B ρ h ρ' h') (b : ExtB X B ρ' h' ρ'' h'') (hB : ∀ I, B = some I → ∃ o, h'.get? I = some o) : ExtB X B ρ h ρ'' h'' :=
  a.two b hB fun x o e q => q
/-- another object that the start had not may turn as well -/
theorem ExtB.aux {B : Option Addr} {L : Addr} {ρ ρ' ρ'' : List Addr} {h h' h'' : Heap} (a : ExtB X (some L) ρ h ρ' h') (b : ExtB X B ρ' h' ρ'' h'') (hL : ∃ o, h'.get? L = some o) (hB : ∀ I, B = some I → h.get? I = none) : ExtB X (some L) ρ h ρ'' h'' :=
  a.two b (fun I q => Option.some.inj q ▸ hL) fun x o e q z => no_some ((hB x z.symm).symm.trans e)
theorem FP.of {fl : Fl} {fr' : Fr} {H' : MH} {f : Flow} {s' : Shared} {ρ1 : List Addr} {h1 : Heap} (E : ExtB X (some env.locals) ρ s.heap ρ1 h1) (hL : ∃ o, h1.get? env.locals = some o) (p : FP X md env ρ1 h1 fl fr' H' f s') : FP X md env ρ s.heap fl fr' H' f s' :=
  Exists.elim p fun ρ2 q => ⟨ρ2, E.trans q.1 fun I z => Option.some.inj z ▸ hL, q.2⟩
theorem fp_to {t : Sem Flow} {fl : Fl} {fr' : Fr} {H' : MH} {s1 : Shared} {ρ1 : List Addr} (E : ExtB X (some env.locals) ρ s.heap ρ1 s1.heap) (F1 : FrR X md ρ1 s1.heap env fr) (k : wpAny (Mx X) A t (FP X md env ρ1 s1.heap fl fr' H') No s1) : wpAny (Mx X) A t (FP X md env ρ s.heap fl fr' H') No s1 :=
  wpAny_mono k (fun f s2 p => FP.of E F1.alive p) no_no

theorem mE_noset {ns : Ns} {e : E} {v : Expr} (m : mE NM md ns e v = true) (hc : isComp v = false) : (∀ (t : Expr) l, swapsWith v (some t) l env = pure false) ∧ ∀ l, swapsWith v none l env = pure false := by
  cases v <;> first | exact ⟨fun _ _ => rfl, fun _ => rfl⟩ | (cases e <;> exact no_tt m) | exact nomatch (show true = false from hc)
theorem swaps_attr {o : Expr} {m : Str} {p : Pos} {v : Expr} {l : Nat} : swapsWith v (some (.Attribute o m p)) l env = pure false := by cases v <;> rfl
theorem swaps_sub {o i : Expr} {p : Pos} {v : Expr} {l : Nat} : swapsWith v (some (.Subscript o i p)) l env = pure false := by cases v <;> rfl
theorem swaps_name {id : Str} {p : Pos} {elt : Expr} {g : List Comprehension} {sc : Scope} {q : Pos} {l : Nat} : ∃ b, swapsWith (.ListComp elt g sc q) (some (.Name id p)) l env = pure b := ⟨_, rfl⟩

/-- what a binding at the end of a statement gives -/
theorem asg_end {t : Tg} {id : Str} {v : V} {fr' : Fr} {H1 H' : MH} {ρ1 : List Addr} {s1 : Shared} {c : Value} (XO : XOK X G mg mb) (E1 : ExtB X (some env.locals) ρ s.heap ρ1 s1.heap) (S1 : SOK X ρ1 H1 s1) (F1 : FrR X md ρ1 s1.heap env fr) (r1 : VR X s1.heap ρ1 v c)
    (et : stT t v fr H1 = some (fr', H')) (mt : mTgN X.NM env.scope.names t id = true) : wpAny (Mx X) A (storeName env id c) (fun _ s' => FP X md env ρ s.heap .nxt fr' H' .next s') No s1 :=
  wpAny_mono (stT_ok XO et mt S1 F1 r1) (fun u s2 q => ⟨ρ1, E1.trans q.2.2 fun I z => Option.some.inj z ▸ F1.alive, q.1, q.2.1, rfl⟩) no_no
theorem mE_lc {ns : Ns} {a : Expr} {b : List Comprehension} {c : Scope} {q : Pos} {e : E} (m : mE NM md ns e (.ListComp a b c q) = true) : (∃ elt x it fv, e = .comp elt x it fv) ∨ (∃ elt x it c fv, e = .compIf elt x it c fv) := by
  cases e <;> first | exact no_tt m | exact .inl ⟨_, _, _, _, rfl⟩ | exact .inr ⟨_, _, _, _, _, rfl⟩
theorem asg_lc (K : AllOK X G C d mg mb) {t : Tg} {e : E} {elt : Expr} {gens : List Comprehension} {sc : Scope} {pos q : Pos} {id : Str} {p : Pos} {fr' : Fr} {w : V} {h1 H' : MH} (m2 : mE X.NM md env.scope.names e (.ListComp elt gens sc pos) = true)
    (hb : swapsWith (.ListComp elt gens sc pos) (some (.Name id p)) q.line env = pure true) (ew : fE G C n e fr H = some (w, h1)) (et : stT t w fr h1 = some (fr', H')) (mt : mTgN X.NM env.scope.names t id = true) (R : Room A d) (S : SOK X ρ H s) (F : FrR X md ρ s.heap env fr) :
    wpAny (Mx X) A (exec (.Assign [.Name id p] (.ListComp elt gens sc pos) q) env) (FP X md env ρ s.heap .nxt fr' H') No s := by
  rw [exec_Assign_Name_used _ _ _ _ hb]
  refine wpAny_bind (wpAny_standAt ?_)
  rcases mE_lc m2 with ⟨elt0, x0, it0, fv, rfl⟩ | ⟨elt0, x0, it0, c0, fv, rfl⟩
  · revert hb
    refine mcomp_e (P := fun v => swapsWith v (some (.Name id p)) q.line env = pure true → wpAny (Mx X) A (evalThenUse v env (assign (.Name id p) env) >>= fun _ => pure .next) (FP X md env ρ s.heap .nxt fr' H') No s) m2 fun elt' p' it' sc' q' m3 m4 m5 m6 hb => ?_
    revert et
    refine i_comp ew fun vi h3 j h4 ei ej hall ec et => ?_
    exact wpAny_bind (comp_bind K.xo K.ci K.ct (compSc_spec m3) m4 (all_some hall) R S F (e_ok K it0 m5 ei R S F) ej ec (fun {v H H' b cenv ρ s} e hn S F => some_e (P := fun r => wpAny (Mx X) A (testsOf [] cenv) (BP X ρ s.heap r.1 r.2) No s) e (tests_nil ⟨rfl, SP.same S⟩)) (fun {v w H H' cenv ρ s} e hn S F => e_ok K elt0 (hn ▸ m6) e R S F) et mt fun ρ' s' E' S' F' => wpAny_pure ⟨ρ', E', S', F', rfl⟩)
  · revert hb
    refine mcompIf_e (P := fun v => swapsWith v (some (.Name id p)) q.line env = pure true → wpAny (Mx X) A (evalThenUse v env (assign (.Name id p) env) >>= fun _ => pure .next) (FP X md env ρ s.heap .nxt fr' H') No s) m2 fun elt' p' it' c' sc' q' m3 m4 m5 m7 m6 hb => ?_
    revert et
    refine i_compIf ew fun vi h3 j h4 ei ej hall ec et => ?_
    exact wpAny_bind (comp_bind K.xo K.ci K.ct (compSc_spec m3) m4 (all_some hall) R S F (e_ok K it0 m5 ei R S F) ej ec (fun {v H H' b cenv ρ s} e hn S F => tests_one (t_ok K c0 (hn ▸ m7) e R S F)) (fun {v w H H' cenv ρ s} e hn S F => e_ok K elt0 (hn ▸ m6) e R S F) et mt fun ρ' s' E' S' F' => wpAny_pure ⟨ρ', E', S', F', rfl⟩)
theorem isComp_e {v : Expr} (h : isComp v = true) : ∃ elt gens sc pos, v = .ListComp elt gens sc pos :=
  Expr.ListComp.elim (motive_1 := fun v => ∃ elt gens sc pos, v = .ListComp elt gens sc pos) v (Nat.eq_of_beq_eq_true h) fun elt gens sc pos => ⟨elt, gens, sc, pos, rfl⟩
@[elab_as_elim] theorem mTg_e {ns : Ns} {t : Tg} {x : Expr} {P : Expr → Prop} (m : mTg NM ns t x = true) (k : ∀ id p, mTgN NM ns t id = true → P (.Name id p)) : P x := by
  obtain ⟨id, p, rfl, h⟩ := mTg_inv m
  exact k id p h
theorem asg_ok (K : AllOK X G C d mg mb) {t : Tg} {e : E} : StOK X G C d n md (.asg t e) := by
  intro x A env fr fr' ρ H H' s fl m ex R S F
  refine xAsg_e m fun ts v q m => b1_e (l := ts) m fun x' m => and_e m fun m1 m2 => mTg_e m1 fun id p mt => i_asg ex fun w h1 fr2 h2 ew et => ?_
  have plain : swapsWith v (some (.Name id p)) q.line env = pure false → wpAny (Mx X) A (exec (.Assign [.Name id p] v q) env) (FP X md env ρ s.heap .nxt fr2 h2) No s := fun hs =>
    wpAny_Assign_Name (ep_bind S F (e_ok K e m2 ew R S F) fun c s1 ρ1 E1 S1 r1 F1 k1 => asg_end K.xo (E1.toB S) S1 F1 r1 et mt) hs
  by_cases hc : isComp v = true
  · obtain ⟨elt, gens, sc, pos, rfl⟩ := isComp_e hc
    obtain ⟨b, hb⟩ := swaps_name (env := env) (id := id) (p := p) (elt := elt) (g := gens) (sc := sc) (q := pos) (l := q.line)
    cases b with
    | false => exact plain hb
    | true => exact asg_lc K m2 hb ew et mt R S F
  · exact plain ((mE_noset m2 (Bool.eq_false_iff.mpr hc)).1 _ _)
theorem setA_ok (K : AllOK X G C d mg mb) {o : E} {i : Nat} {e : E} : StOK X G C d n md (.setA o i e) := by
  intro x A env fr fr' ρ H H' s fl m ex R S F
  refine xAsg_e m fun ts v q m => b1_e (l := ts) m fun x' m => xAtt_e (x := x') m fun o' nm p m => and_e m fun m m2 => and_e m fun m0 m1 => i_setA ex fun w h1 vo h2 h3 ew eo es => ?_
  refine nm_e (P := fun nm => wpAny (Mx X) A (exec (.Assign [.Attribute o' nm p] v q) env) (FP X md env ρ s.heap .nxt fr h3) No s) m0 ?_
  refine plainObj_wpAny_Assign_Attribute (ep_bind S F (e_ok K e m2 ew R S F) fun c s1 ρ1 E1 S1 r1 F1 k1 => ep_bind S1 F1 (e_ok K o m1 eo R S1 F1) fun c2 s2 ρ2 E2 S2 r2 F2 k2 => ?_) swaps_attr
  exact wpAny_mono (K.oo.set es R S2 r2 (k2 _ _ r1)) (fun u s3 h3 => Exists.elim h3 fun ρ3 q => ⟨ρ3, ((E1.trans E2).trans q.1).toB S, q.2, F2.step S2 q.1, rfl⟩) no_no
theorem setI_ok (K : AllOK X G C d mg mb) {o i e : E} : StOK X G C d n md (.setI o i e) := by
  intro x A env fr fr' ρ H H' s fl m ex R S F
  refine xAsg_e m fun ts v q m => b1_e (l := ts) m fun x' m => xSub_e (x := x') m fun o' i' p m => and_e m fun m m3 => and_e m fun m m2 => and_e m fun _ m1 => i_setI ex fun w h1 vo h2 vi h3 h4 ew eo ei es => ?_
  refine wpAny_Assign_Subscript (ep_bind S F (e_ok K e m3 ew R S F) fun c s1 ρ1 E1 S1 r1 F1 k1 => ep_bind S1 F1 (e_ok K o m1 eo R S1 F1) fun c2 s2 ρ2 E2 S2 r2 F2 k2 => ep_bind S2 F2 (e_ok K i m2 ei R S2 F2) fun c3 s3 ρ3 E3 S3 r3 F3 k3 => ?_) swaps_sub
  exact wpAny_mono (setIV_ok K.xo es S3 (k3 _ _ r2) r3 (k3 _ _ (k2 _ _ r1))) (fun u s4 h4 => ⟨ρ3, (((E1.trans E2).trans E3).trans h4.2).toB S, h4.1, F3.step S3 h4.2, rfl⟩) no_no
theorem iaddV_ok {va vb v : V} {H' : MH} {ca cb : Value} (e : iaddV va vb H = some (v, H')) (S : SOK X ρ H s) (ra : VR X s.heap ρ va ca) (rb : VR X s.heap ρ vb cb) :
    wpAny (Mx X) A (inplaceOp .Add ca cb) (EP X ρ s.heap v H') No s := by
  cases va <;> (try (exact no_some e)) <;> cases vb <;> (try (exact no_some e))
  · exact pair_e e (VR.int_e ra fun t => VR.int_e rb fun u => wpAny_iadd_int (EP.tok S VR.int _))
  · exact ifp_e e fun hm => str2_r (P := fun ca cb => wpAny (Mx X) A (inplaceOp .Add ca cb) _ No s) ra rb fun t u => SB.iadd (fun t' k => EP.tok S (v := .str _) (VR.strAt (t := t') (by rw [S_append])) _) (by rw [S_length, S_length, sizeLine_eq]; exact hm)
theorem augV_ok {op : Operator} {va vb v : V} {H' : MH} {ca cb : Value} (e : augV op va vb H = some (v, H')) (S : SOK X ρ H s) (ra : VR X s.heap ρ va ca) (rb : VR X s.heap ρ vb cb) :
    wpAny (Mx X) A (inplaceOp op ca cb) (EP X ρ s.heap v H') No s := by
  cases op <;> (try (exact no_some e))
  case Add => exact iaddV_ok e S ra rb
  case Sub => exact int2_r e ra rb fun x y t u e => pair_e e (isub_int (EP.tok S VR.int _))
  case LShift => exact int2_r e ra rb fun x y t u e => ifp_e e fun hm => ilshift_int hm.1 (by simpa using hm.2) (EP.tok S VR.int _)
  case RShift => exact int2_r e ra rb fun x y t u e => ifp_e e fun hm => irshift_int hm (EP.tok S VR.int _)
theorem ldT_ok (XO : XOK X G mg mb) {t : Tg} {v : V} {id : Str} (e : ldT t fr H = some v) (m : mTgN X.NM env.scope.names t id = true) (S : SOK X ρ H s) (F : FrR X md ρ s.heap env fr) : wpAny (Mx X) A (loadName env id) (EP X ρ s.heap v H) No s := by
  cases t with
  | loc x =>
    refine and_e m fun m m3 => and_e m fun m1 m2 => ?_
    obtain ⟨mm, hn, hl⟩ := F.loc
    obtain ⟨c, h1, h2⟩ := hl _ _ e
    exact wpAny_loadName_local F.kind (isK_spec m2) hn (nm_e (P := fun q => mm q = some c) m1 h1) (EP.same S h2)
  | cel x =>
    refine and_e m fun m m3 => and_e m fun m1 m2 => bnd_e e fun i hi e => ?_
    revert m2 m3
    exact nm_e m1 fun m3 m2 => load_cel F S hi (celV_some e) (by unfold isCF; rw [m2]; rfl) m3
theorem aug_ok (K : AllOK X G C d mg mb) {t : Tg} {op : Operator} {e : E} : StOK X G C d n md (.aug t op e) := by
  intro x A env fr fr' ρ H H' s fl m ex R S F
  refine xAug_e m fun x' op' v q m => and_e m fun m m2 => and_e m fun m0 m1 => dec_e m0 (mTg_e m1 fun id p mt => i_aug ex fun old w h1 r h2 fr3 h3 eold ew er et => ?_)
  exact wpAny_AugAssign_Name (ep_bind S F (ldT_ok K.xo eold mt S F) fun c s1 ρ1 E1 S1 r1 F1 k1 => ep_bind S1 F1 (e_ok K e m2 ew R S1 F1) fun c2 s2 ρ2 E2 S2 r2 F2 k2 => ep_bind S2 F2 (augV_ok er S2 (k2 _ _ r1) r2) fun c3 s3 ρ3 E3 S3 r3 F3 k3 => asg_end K.xo (((E1.trans E2).trans E3).toB S) S3 F3 r3 et mt)
theorem augA_ok (K : AllOK X G C d mg mb) {o : E} {i : Nat} {op : Operator} {e : E} : StOK X G C d n md (.augA o i op e) := by
  intro x A env fr fr' ρ H H' s fl m ex R S F
  refine xAug_e m fun x' op' v q m => xAtt_e (x := x') m fun o' nm p m => and_e m fun m m2 => and_e m fun m m1 => and_e m fun m0 mn => dec_e m0 (i_augA ex fun vo h1 old w h2 r h3 h4 eo ea ew er es => ?_)
  refine nm_e (P := fun nm => wpAny (Mx X) A (exec (.AugAssign (.Attribute o' nm p) op v q) env) (FP X md env ρ s.heap .nxt fr h4) No s) mn ?_
  refine wpAny_AugAssign_AttributeAny (ep_bind S F (e_ok K o m1 eo R S F) fun c s1 ρ1 E1 S1 r1 F1 k1 => ep_bind S1 F1 (K.oo.att ea R S1 r1) fun c2 s2 ρ2 E2 S2 r2 F2 k2 => ep_bind S2 F2 (e_ok K e m2 ew R S2 F2) fun c3 s3 ρ3 E3 S3 r3 F3 k3 =>
    ep_bind S3 F3 (augV_ok er S3 (k3 _ _ r2) r3) fun c4 s4 ρ4 E4 S4 r4 F4 k4 => ?_)
  exact wpAny_mono (K.oo.set es R S4 (k4 _ _ (k3 _ _ (k2 _ _ r1))) r4) (fun u s5 h5 => Exists.elim h5 fun ρ5 q => ⟨ρ5, ((((E1.trans E2).trans E3).trans E4).trans q.1).toB S, q.2, F4.step S4 q.1, rfl⟩) no_no
theorem ex_ok (K : AllOK X G C d mg mb) {e : E} : StOK X G C d n md (.ex e) := by
  intro x A env fr fr' ρ H H' s fl m ex R S F
  refine xEx_e m fun _ _ m => and_e m fun m1 m2 => i_ex ex fun w h1 ew => ?_
  exact wpAny_Expr_any (ep_bind S F (e_ok K e m1 ew R S F) fun c s1 ρ1 E1 S1 r1 F1 k1 => ⟨ρ1, E1.toB S, S1, F1, rfl⟩) (by unfold interactive; rw [F.kind]; rfl) ((mE_noset m1 (neg_e m2)).2 _)
theorem ret_ok (K : AllOK X G C d mg mb) {e : E} : StOK X G C d n md (.ret e) := by
  intro x A env fr fr' ρ H H' s fl m ex R S F
  refine xRet_e m fun v p m => i_ret ex fun w h1 ew => ?_
  cases v with
  | some v => exact wpAny_Return_some (ep_bind S F (e_ok K e m ew R S F) fun c s1 ρ1 E1 S1 r1 F1 k1 => ⟨ρ1, E1.toB S, S1, F1, c, rfl, r1⟩)
  | none =>
    revert ew
    exact isNone_e (e := e) m fun ew => pair_e ew (wpAny_Return_none ⟨ρ, Ext.refl.toB S, S, F, .none, rfl, rfl⟩)
theorem brk_ok : StOK X G C d n md .brk := by
  intro x A env fr fr' ρ H H' s fl m ex R S F
  exact xBrk_e m fun _ m => flow_e ex (wpAny_Break ⟨ρ, Ext.refl.toB S, S, F, rfl⟩)
theorem cnt_ok : StOK X G C d n md .cnt := by
  intro x A env fr fr' ρ H H' s fl m ex R S F
  exact xCnt_e m fun _ m => flow_e ex (wpAny_Continue ⟨ρ, Ext.refl.toB S, S, F, rfl⟩)
theorem bad_ok : StOK X G C d n md .bad := by
  intro x A env fr fr' ρ H H' s fl m ex R S F
  exact no_some ex
theorem ifs_ok (K : AllOK X G C d mg mb) {t : T} {a b : Ss} (ha : SsOK X G C d n md a) (hb : SsOK X G C d n md b) : StOK X G C d n md (.ife t a b) := by
  intro x A env fr fr' ρ H H' s fl m ex R S F
  refine xSIf_e m fun _ _ _ _ m => and_e m fun m m2 => and_e m fun m0 m1 => ?_
  exact wpAny_If (i_sife ex (fun h1 et e => bp1 (t_ok K t) m0 et R S F fun s1 ρ1 E1 S1 F1 => fp_to (E1.toB S) F1 (ha m1 e R S1 F1)) fun h1 et e => bp0 (t_ok K t) m0 et R S F fun s1 ρ1 E1 S1 F1 => fp_to (E1.toB S) F1 (hb m2 e R S1 F1))
theorem nil_ok : SsOK X G C d n md .nil := by
  intro x A env fr fr' ρ H H' s fl m ex R S F
  exact b0_e m fun _ => flow_e ex (wpAny_execs_nil ⟨ρ, Ext.refl.toB S, S, F, rfl⟩)
theorem flR_next {h : Heap} {fl : Fl} (r : FlR X h ρ fl .next) : fl = .nxt := by
  cases fl with
  | nxt => rfl
  | cnt => exact nomatch (show Flow.next = .cont from r)
  | brk => exact nomatch (show Flow.next = .brk from r)
  | ret v => exact Exists.elim r fun c q => nomatch q.1
theorem cons_ok {st : St} {ss : Ss} (h1 : StOK X G C d n md st) (h2 : SsOK X G C d n md ss) : SsOK X G C d n md (.cons st ss) := by
  intro x A env fr fr' ρ H H' s fl m ex R S F
  refine bc_e m fun _ _ m => and_e m fun m1 m2 => wpAny_execs_cons (i_scons ex (fun fr1 H1 e1 e => ?_) fun hne e1 => ?_)
  · refine wpAny_mono (h1 m1 e1 R S F) (fun f s1 hf => Exists.elim hf fun ρ1 q => ?_) no_no
    obtain ⟨E1, S1, F1, rfl⟩ := q
    exact fp_to E1 F1 (h2 m2 e R S1 F1)
  · refine wpAny_mono (h1 m1 e1 R S F) (fun f s1 hf => ?_) no_no
    cases f with
    | next => exact Exists.elim hf fun ρ1 q => absurd (flR_next q.2.2.2) hne
    | _ => exact hf
end
end Rz
end Q16
section Q17
open PySem PySem.W PySem.Calls PyProof.Rows
namespace Rz
set_option linter.unusedVariables false
set_option linter.unusedSimpArgs false
set_option maxRecDepth 100000

section
variable {X : Cx} {G : Gl} {C : Call} {d n : Nat} {md : Md} {A : Around} {ρ : List Addr} {H : MH} {s : Shared} {env : Env} {fr : Fr} {mg mb : Str → Option Value} {NM : Nat → Str}

/-- the statement's end: bound -/
noncomputable def GP (X : Cx) (md : Md) (env : Env) (ρ : List Addr) (h : Heap) (fr' : Fr) (H' : MH) (s' : Shared) : Prop := ∃ ρ', ExtB X (some env.locals) ρ h ρ' s'.heap ∧ SOK X ρ' H' s' ∧ FrR X md ρ' s'.heap env fr'
theorem GP.of {fr' : Fr} {H' : MH} {s' : Shared} {ρ1 : List Addr} {h1 : Heap} (E : ExtB X (some env.locals) ρ s.heap ρ1 h1) (hL : ∃ o, h1.get? env.locals = some o) (p : GP X md env ρ1 h1 fr' H' s') : GP X md env ρ s.heap fr' H' s' :=
  Exists.elim p fun ρ2 q => ⟨ρ2, E.trans q.1 fun I z => Option.some.inj z ▸ hL, q.2⟩
theorem bind_one (XO : XOK X G mg mb) {t : Tg} {v : V} {fr' : Fr} {H' : MH} {id : Str} {c : Value} (e : stT t v fr H = some (fr', H')) (m : mTgN X.NM env.scope.names t id = true) (S : SOK X ρ H s) (F : FrR X md ρ s.heap env fr) (r : VR X s.heap ρ v c) :
    wpAny (Mx X) A (storeName env id c) (fun _ s' => GP X md env ρ s.heap fr' H' s') No s :=
  wpAny_mono (stT_ok XO e m S F r) (fun u s2 q => ⟨ρ, q.2.2, q.1, q.2.1⟩) no_no

theorem asg_two {c : Value} {id : Str} {p : Pos} {y : Expr} {ys : List Expr} : assignAll c ((assignEach (.Name id p :: y :: ys) env).map (·.2)) = (do holding [c] (assign (.Name id p) env c); assignAll c ((assignEach (y :: ys) env).map (·.2))) := by
  cases y <;> rfl
theorem GP.same {X : Cx} {md : Md} {env : Env} {ρ : List Addr} {fr : Fr} {H : MH} {s : Shared} (S : SOK X ρ H s) (F : FrR X md ρ s.heap env fr) : GP X md env ρ s.heap fr H s := ⟨ρ, Ext.refl.toB S, S, F⟩
@[elab_as_elim] theorem mTgs_nil {ns : Ns} {xs : List Expr} {P : List Expr → Prop} (m : mTgs NM ns [] xs = true) (k : P []) : P xs := b0_e m fun _ => k
@[elab_as_elim] theorem mTgs_e {ns : Ns} {t : Tg} {ts : List Tg} {xs : List Expr} {P : List Expr → Prop} (m : mTgs NM ns (t :: ts) xs = true) (k : ∀ id p xs, mTgN NM ns t id = true → mTgs NM ns ts xs = true → P (.Name id p :: xs)) : P xs :=
  bc_e m fun x xs m => and_e m fun m1 m2 => mTg_e (P := fun x => P (x :: xs)) m1 fun id p mt => k id p xs mt m2
/-- one target, then the rest -/
theorem gp_then {fr1 fr' : Fr} {h1 H' : MH} {a b : Sem Unit} (ha : wpAny (Mx X) A a (fun _ s' => GP X md env ρ s.heap fr1 h1 s') No s)
    (hb : ∀ ρ1 s1, ExtB X (some env.locals) ρ s.heap ρ1 s1.heap → SOK X ρ1 h1 s1 → FrR X md ρ1 s1.heap env fr1 → wpAny (Mx X) A b (fun _ s' => GP X md env ρ1 s1.heap fr' H' s') No s1) {cs : List Value} :
    wpAny (Mx X) A (holding cs a >>= fun _ => b) (fun _ s' => GP X md env ρ s.heap fr' H' s') No s :=
  wpAny_bind (wpAny_holding (wpAny_mono ha (fun u s1 q => Exists.elim q fun ρ1 q => wpAny_mono (hb ρ1 s1 q.1 q.2.1 q.2.2) (fun u s2 h2 => GP.of q.1 q.2.2.alive h2) no_no) no_no))
theorem asgAll_ok (XO : XOK X G mg mb) {v : V} {ts : List Tg} {xs : List Expr} {fr fr' : Fr} {H H' : MH} {ρ : List Addr} {s : Shared} {c : Value} (m : mTgs X.NM env.scope.names ts xs = true) (e : stAll v ts fr H = some (fr', H')) (S : SOK X ρ H s) (F : FrR X md ρ s.heap env fr) (r : VR X s.heap ρ v c) :
    wpAny (Mx X) A (assignAll c ((assignEach xs env).map (·.2))) (fun _ s' => GP X md env ρ s.heap fr' H' s') No s := by
  induction ts generalizing xs fr H ρ s with
  | nil => exact mTgs_nil m (fh_e e (wpAny_pure (GP.same S F)))
  | cons t ts ih =>
    refine mTgs_e m fun id p xs mt m2 => bnd_e e fun q e1 e => ?_
    have one : wpAny (Mx X) A (assign (.Name id p) env c) (fun _ s' => GP X md env ρ s.heap q.1 q.2 s') No s := wpAny_assign_Name (bind_one XO e1 mt S F r)
    cases xs with
    | nil => cases ts with
      | cons t ts => exact nomatch (show false = true from m2)
      | nil => exact fh_e e one
    | cons y ys =>
      rw [asg_two]
      exact gp_then one fun ρ1 s1 E1 S1 F1 => ih m2 e S1 F1 (r.mono E1.mono E1.pre)
theorem sw2 {x y : Expr} {xs : List Expr} {v : Expr} : swappedStores (x :: y :: xs) v env = pure none := by cases x <;> first | rfl | (cases v <;> rfl)
theorem asgC_ok (K : AllOK X G C d mg mb) {ts : List Tg} {e : E} : StOK X G C d n md (.asgC ts e) := by
  intro x A env fr fr' ρ H H' s fl m ex R S F
  refine xAsg_e m fun l v q m => bc_e m fun x l m => bc_e (l := l) m fun y xs m => and_e m fun m _ => and_e m fun m1 m2 => i_asgC ex fun w h1 fr2 h2 ew et => ?_
  exact wpAny_Assign_stores (ep_bind S F (e_ok K e m2 ew R S F) fun c s1 ρ1 E1 S1 r1 F1 k1 => wpAny_mono (asgAll_ok K.xo m1 et S1 F1 r1) (fun u s2 h2 => Exists.elim (GP.of (E1.toB S) F1.alive h2) fun ρ2 q => ⟨ρ2, q.1, q.2.1, q.2.2, rfl⟩) no_no) rfl sw2

/-! tuples of targets -/
theorem asgOrd_ok (XO : XOK X G mg mb) {ts : List Tg} {xs : List Expr} {vs : List V} {fr fr' : Fr} {H H' : MH} {ρ : List Addr} {s : Shared} {cs : List Value} (m : mTgs X.NM env.scope.names ts xs = true) (e : stTs ts vs fr H = some (fr', H')) (S : SOK X ρ H s) (F : FrR X md ρ s.heap env fr) (r : VRs X s.heap ρ vs cs) :
    wpAny (Mx X) A (assignInOrder ((assignEach xs env).map (·.2)) cs) (fun _ s' => GP X md env ρ s.heap fr' H' s') No s := by
  induction ts generalizing xs vs fr H ρ s cs with
  | nil =>
    revert r
    exact mTgs_nil m (nilL_e e fun e r => VRs.nil_e r (fh_e e (wpAny_pure (GP.same S F))))
  | cons t ts ih =>
    cases vs with
    | nil => exact no_some e
    | cons v vs =>
      exact mTgs_e m fun id p xs mt m2 => VRs.cons_e r fun c cs r1 r2 => bnd_e e fun q e1 e =>
        gp_then (a := assign (.Name id p) env c) (b := assignInOrder ((assignEach xs env).map (·.2)) cs) (wpAny_assign_Name (bind_one XO e1 mt S F r1)) fun ρ1 s1 E1 S1 F1 => ih m2 e S1 F1 (r2.mono E1.mono E1.pre)
theorem each_len {ts : List Tg} {xs : List Expr} {ns : Ns} (m : mTgs NM ns ts xs = true) : (assignEach xs env).length = ts.length ∧ (assignEach xs env).findIdx? (·.1) = none := by
  induction ts generalizing xs with
  | nil => exact mTgs_nil m ⟨rfl, rfl⟩
  | cons t ts ih =>
    refine mTgs_e m fun id p xs mt m2 => ?_
    show ((false, assign (.Name id p) env) :: assignEach xs env).length = _ ∧ ((false, assign (.Name id p) env) :: assignEach xs env).findIdx? (·.1) = none
    refine ⟨congrArg (· + 1) (ih m2).1, ?_⟩
    rw [List.findIdx?_cons, (ih m2).2]; rfl

theorem stTs_len {ts : List Tg} {vs : List V} {fr fr' : Fr} {H H' : MH} (e : stTs ts vs fr H = some (fr', H')) : ts.length = vs.length := by
  induction ts generalizing vs fr H with
  | nil => exact nilL_e e fun _ => rfl
  | cons t ts ih => cases vs with
    | nil => exact no_some e
    | cons v vs => exact bnd_e e fun q e1 e => congrArg (· + 1) (ih e)

/-- all targets are names of the frame's own -/
noncomputable def putL : List Nat → List V → List (Nat × V) → List (Nat × V)
  | [], _, l => l
  | x :: xs, vs, l => match vs with
    | [] => l
    | v :: vs => putL xs vs (put l x v)
theorem putL_out {xs : List Nat} {vs : List V} {l : List (Nat × V)} {y : Nat} (h : y ∉ xs) : lk (putL xs vs l) y = lk l y := by
  induction xs generalizing vs l with
  | nil => rfl
  | cons x xs ih => cases vs with
    | nil => rfl
    | cons v vs => exact (ih (fun m => h (List.mem_cons_of_mem _ m))).trans (by rw [lk_put, if_neg (fun q => h (by rw [q]; exact List.mem_cons_self ..))])
theorem putL_in {xs : List Nat} {vs : List V} {l : List (Nat × V)} {y : Nat} {v : V} (nd : xs.Nodup) (h : (y, v) ∈ xs.zip vs) : lk (putL xs vs l) y = some v := by
  induction xs generalizing vs l with
  | nil => exact nomatch h
  | cons x xs ih => cases vs with
    | nil => exact nomatch h
    | cons w vs =>
      obtain ⟨n1, n2⟩ := List.nodup_cons.mp nd
      rcases List.mem_cons.mp h with h | h
      · cases h
        exact (putL_out n1).trans (by rw [lk_put, if_pos rfl])
      · exact ih n2 h
theorem putL_rev {xs : List Nat} {vs : List V} {l : List (Nat × V)} (nd : xs.Nodup) (hl : xs.length = vs.length) (y : Nat) : lk (putL xs.reverse vs.reverse l) y = lk (putL xs vs l) y := by
  by_cases hy : y ∈ xs
  · obtain ⟨i, hi, rfl⟩ := List.getElem_of_mem hy
    have hm : (xs[i], vs[i]'(hl ▸ hi)) ∈ xs.zip vs := by
      rw [List.mem_iff_getElem]
      exact ⟨i, by simp; omega, by simp⟩
    have hm' : (xs[i], vs[i]'(hl ▸ hi)) ∈ xs.reverse.zip vs.reverse := by
      rw [List.mem_iff_getElem]
      refine ⟨xs.length - 1 - i, by simp; omega, ?_⟩
      simp only [List.getElem_zip, List.getElem_reverse]
      congr 2 <;> omega
    rw [putL_in nd hm, putL_in (by rw [List.Nodup, List.pairwise_reverse]; exact nd.imp fun h q => h q.symm) hm']
  · rw [putL_out hy, putL_out (by simpa using hy)]
theorem FrR.same {l l' : List (Nat × V)} {cel : List (Nat × Nat)} (F : FrR X md ρ s.heap env ⟨l, cel⟩) (h : ∀ y, lk l' y = lk l y) : FrR X md ρ s.heap env ⟨l', cel⟩ :=
  ⟨F.kind, F.glob, F.blt, F.nL, F.tL, F.bL, Exists.elim F.loc fun m q => ⟨m, q.1, fun x v e => q.2 x v ((h x).symm.trans e)⟩, F.cel, F.mkc⟩
theorem bindL_ok (XO : XOK X G mg mb) {xs : List Nat} {vs : List V} {fr : Fr} {ρ : List Addr} {s : Shared} {cs : List Value} (hk : ∀ x ∈ xs, isK env.scope.names (X.NM x) .local = true ∧ okN (X.NM x) = true) (h : xs.length = vs.length) (S : SOK X ρ H s) (F : FrR X md ρ s.heap env fr) (r : VRs X s.heap ρ vs cs) :
    wpAny (Mx X) A (assignInOrder (xs.map fun x => bindName env (X.NM x)) cs) (fun _ s' => GP X md env ρ s.heap ⟨putL xs vs fr.loc, fr.cel⟩ H s') No s := by
  induction xs generalizing vs fr ρ s cs with
  | nil => exact wpAny_pure (GP.same S F)
  | cons x xs ih => cases vs with
    | nil => exact nomatch h
    | cons v vs =>
      refine VRs.cons_e r fun c cs r1 r2 => ?_
      have k := hk x (List.mem_cons_self ..)
      have hm : mTgN X.NM env.scope.names (.loc x) (X.NM x) = true := by
        show (X.NM x == X.NM x && isK _ _ .local && okN _) = true
        rw [beq_self_eq_true, k.1, k.2]; rfl
      exact gp_then (a := bindName env (X.NM x) c) (b := assignInOrder (xs.map fun x => bindName env (X.NM x)) cs) (wpAny_bindName (bind_one XO (t := .loc x) (fr' := ⟨put fr.loc x v, fr.cel⟩) (H' := H) rfl hm S F r1)) fun ρ1 s1 E1 S1 F1 =>
        ih (fun y hy => hk y (List.mem_cons_of_mem _ hy)) (Nat.succ.inj h) S1 F1 (r2.mono E1.mono E1.pre)
end
end Rz
end Q17
section Q18
open PySem PySem.W PySem.Calls PyProof.Rows
namespace Rz
set_option linter.unusedVariables false
set_option linter.unusedSimpArgs false
set_option maxRecDepth 100000

section
variable {X : Cx} {G : Gl} {C : Call} {d n : Nat} {md : Md} {A : Around} {ρ : List Addr} {H : MH} {s : Shared} {env : Env} {fr : Fr} {mg mb : Str → Option Value} {NM : Nat → Str}

theorem sw_nt {xs : List Expr} {k : Nat} {p : Pos} {v : Expr} (h : Nat.beq v.ctorIdx 25 = false) : swappedStores [.Tuple xs k p] v env = pure none := by
  cases v <;> first | rfl | exact nomatch (show true = false from h)
theorem tup_e {v : Expr} (h : Nat.beq v.ctorIdx 25 = true) : ∃ vs k p, v = .Tuple vs k p :=
  Expr.Tuple.elim (motive_1 := fun v => ∃ vs k p, v = .Tuple vs k p) v (Nat.eq_of_beq_eq_true h) fun vs k p => ⟨vs, k, p, rfl⟩
/-- what a tuple's swap asks -/
noncomputable def SwF (env : Env) (f : Expr → Option Str) : Prop := ∃ line : Nat, ∀ id p, f (.Name id p) = if (env.kindOf id == some .local && (p : Pos).line == line) = true then some id else none
noncomputable def SwP (env : Env) (xs : List Expr) (r : Sem (Option (List Str))) : Prop := r = pure none ∨ ∃ f : Expr → Option Str, r = pure (some (xs.filterMap f)) ∧ (xs.filterMap f).length = xs.length ∧ SwF env f
theorem SwP.ite {xs : List Expr} {c : Prop} [d : Decidable c] {a b : Sem (Option (List Str))} (h1 : c → SwP env xs a) (h2 : ¬c → SwP env xs b) : SwP env xs (if c then a else b) := by
  cases d with
  | isTrue h => exact h1 h
  | isFalse h => exact h2 h
theorem swapped_cases (xs : List Expr) (k : Nat) (p : Pos) (v : Expr) (hv : constsAlone v = false) : SwP env xs (swappedStores [.Tuple xs k p] v env) := by
  cases hb : Nat.beq v.ctorIdx 25
  · exact .inl (sw_nt hb)
  obtain ⟨vs, k', p', rfl⟩ := tup_e hb
  replace hv : vs.all (constantsAlone 8) = false := hv
  refine SwP.ite (fun _ => .inl rfl) fun _ => SwP.ite (fun _ => .inl rfl) fun _ => SwP.ite (fun _ => .inl rfl) fun q => SwP.ite (fun _ => .inl rfl) fun _ => SwP.ite (fun q => ?_) fun _ => .inr ⟨_, rfl, ?_, _, fun id p => rfl⟩
  · exact nomatch (hv.symm.trans q)
  · rw [Bool.or_eq_true, not_or, bne_iff_ne, Decidable.not_not] at q
    exact q.1
theorem swap_names {f : Expr → Option Str} (hf : SwF env f) {ts : List Tg} {xs : List Expr} (m : mTgs X.NM env.scope.names ts xs = true) : (xs.filterMap f).length = xs.length →
    ∃ ns : List Nat, ts = ns.map .loc ∧ xs.filterMap f = ns.map X.NM ∧ ∀ x ∈ ns, isK env.scope.names (X.NM x) .local = true ∧ okN (X.NM x) = true := by
  induction ts generalizing xs with
  | nil => exact mTgs_nil m fun _ => ⟨[], rfl, rfl, fun x h => nomatch h⟩
  | cons t ts ih =>
    refine mTgs_e m fun id p xs mt m2 h => ?_
    have hle := List.length_filterMap_le f xs
    obtain ⟨line, hf'⟩ := hf
    rw [List.filterMap_cons, hf' id p] at h ⊢
    by_cases q : (env.kindOf id == some .local && p.line == line) = true
    · rw [if_pos q] at h ⊢
      obtain ⟨ns, h1, h2, h3⟩ := ih m2 (Nat.succ.inj h)
      cases t with
      | loc x =>
        refine and_e mt fun mt m3 => and_e mt fun m1 m2 => ?_
        refine ⟨x :: ns, congrArg (Tg.loc x :: ·) h1, ?_, List.forall_mem_cons.mpr ⟨⟨(eq_of_beq m1).symm ▸ m2, (eq_of_beq m1).symm ▸ m3⟩, h3⟩⟩
        rw [List.map_cons, ← h2, eq_of_beq m1]
      | cel x =>
        refine and_e mt fun mt m3 => and_e mt fun m1 m2 => and_e q fun q _ => ?_
        unfold Env.kindOf at q
        rw [isK_spec m2] at q
        exact nomatch q
    · rw [if_neg q] at h
      rw [List.length_cons] at h
      exact absurd (Nat.lt_of_lt_of_eq (Nat.lt_succ_of_le hle) h.symm) (Nat.lt_irrefl _)
theorem stTs_loc {ns : List Nat} {vs : List V} {fr fr' : Fr} {H H' : MH} (e : stTs (ns.map .loc) vs fr H = some (fr', H')) : fr' = ⟨putL ns vs fr.loc, fr.cel⟩ ∧ H' = H ∧ ns.length = vs.length := by
  induction ns generalizing vs fr with
  | nil => exact nilL_e e fun e => fh_e e ⟨rfl, rfl, rfl⟩
  | cons x ns ih => cases vs with
    | nil => exact no_some e
    | cons v vs =>
      have h := ih (vs := vs) (fr := ⟨put fr.loc x v, fr.cel⟩) e
      exact ⟨h.1, h.2.1, congrArg (· + 1) h.2.2⟩
theorem distinct_nodup {l : List Nat} (h : distinct l = true) : l.Nodup := by
  induction l with
  | nil => exact .nil
  | cons x r ih =>
    refine and_e h fun h1 h2 => .cons (fun a ha q => ?_) (ih h2)
    subst q
    exact nomatch ((neg_e h1).symm.trans (List.contains_iff_mem.mpr ha))
theorem names_loc (ns : List Nat) : tgNames (ns.map .loc) = ns := by
  induction ns with
  | nil => rfl
  | cons x ns ih => exact congrArg (x :: ·) ih
@[elab_as_elim] theorem VR.tup_e {h : Heap} {vs : List V} {c : Value} {P : Value → Prop} (r : VR X h ρ (.tup vs) c) (k : ∀ a items, IsTup h a items.toArray → VRs X h ρ vs items → P (.ref a)) : P c := by
  obtain ⟨a, items, rfl, h1, h2⟩ := r
  exact k a items h1 h2
section
variable {ts : List Tg} {e : E} {xs : List Expr} {k : Nat} {p q : Pos} {v : Expr} {vs : List V} {h1 H' : MH} {fr' : Fr}
theorem asgT_plain (K : AllOK X G C d mg mb) (m1 : mTgs X.NM env.scope.names ts xs = true) (m2 : mE X.NM md env.scope.names e v = true) (ew : fE G C n e fr H = some (.tup vs, h1)) (et : stTs ts vs fr h1 = some (fr', H'))
    (hs : swapsWithSole [.Tuple xs k p] v q.line env = pure false) (hw : swappedStores [.Tuple xs k p] v env = pure none) (R : Room A d) (S : SOK X ρ H s) (F : FrR X md ρ s.heap env fr) : wpAny (Mx X) A (exec (.Assign [.Tuple xs k p] v q) env) (FP X md env ρ s.heap .nxt fr' H') No s := by
  refine wpAny_Assign_stores (ep_bind S F (e_ok K e m2 ew R S F) fun c s1 ρ1 E1 S1 r1 F1 k1 => VR.tup_e r1 fun a items ht rv => ?_) hs hw
  show wpAny _ _ (assign (.Tuple xs k p) env _) _ _ _
  rw [arm_assign_Tuple]
  have l := each_len (env := env) m1
  refine wpAny_bind (wpAny_standAt (wpAny_unpack_tuple R.handled ht (by rw [l.1, stTs_len et, List.size_toArray, VRs.length rv]) l.2 fun h' kb => ?_))
  have S1' := S1.grow (s' := { s1 with heap := h' }) (fun b o e => kb b o (fun z => by rw [z, size_none] at e; cases e) e) rfl rfl
  have E1' : Ext X ρ1 s1.heap ρ1 h' := SOK.ext_keep (fun b o e => kb b o (fun z => by rw [z, size_none] at e; cases e) e)
  have F1' := F1.step S1 E1'
  exact wpAny_mono (asgOrd_ok K.xo m1 et S1' F1' (rv.mono (S1.mono E1') (List.prefix_refl _))) (fun u s2 h2 => Exists.elim (GP.of ((E1.trans E1').toB S) (FrR.alive (s := { s1 with heap := h' }) F1') h2) fun ρ2 q => ⟨ρ2, q.1, q.2.1, q.2.2, rfl⟩) no_no
theorem asgT_swap (K : AllOK X G C d mg mb) {ns : List Nat} (m2 : mE X.NM md env.scope.names e v = true) (m5 : ns.Nodup) (ew : fE G C n e fr H = some (.tup vs, h1)) (hl : ns.length = vs.length) (hk : ∀ x ∈ ns, isK env.scope.names (X.NM x) .local = true ∧ okN (X.NM x) = true)
    (hs : swapsWithSole [.Tuple xs k p] v q.line env = pure false) (hw : swappedStores [.Tuple xs k p] v env = pure (some (ns.map X.NM))) (R : Room A d) (S : SOK X ρ H s) (F : FrR X md ρ s.heap env fr) : wpAny (Mx X) A (exec (.Assign [.Tuple xs k p] v q) env) (FP X md env ρ s.heap .nxt ⟨putL ns vs fr.loc, fr.cel⟩ h1) No s := by
  rw [exec_Assign_arm]
  refine wpAny_bind (wpAny_standAt ?_)
  rw [hs]
  refine wpAny_bind (wpAny_pure ?_)
  rw [if_neg (by decide)]
  refine wpAny_bind (ep_bind S F (e_ok K e m2 ew R S F) fun c s1 ρ1 E1 S1 r1 F1 k1 => ?_)
  rw [hw]
  refine wpAny_bind (wpAny_pure ?_)
  show wpAny _ _ (do rule "assign.swapped-stores"; let items ← unpackItems c (ns.map X.NM).length none; assignInOrder ((ns.map X.NM).reverse.map fun n => bindName env n) items.reverse; pure Flow.next) _ _ _
  refine wpAny_bind (wpAny_rule (VR.tup_e r1 fun a items ht rv => ?_))
  have hz : (ns.map X.NM).length = items.toArray.size := by rw [List.length_map, hl, List.size_toArray, VRs.length rv]
  rw [hz]
  refine wpAny_bind (wpAny_unpackItems_tuple R.handled ht fun h' kb => ?_)
  have S1' := S1.grow (s' := { s1 with heap := h' }) (fun b o e => kb b o (fun z => by rw [z, size_none] at e; cases e) e) rfl rfl
  have E1' : Ext X ρ1 s1.heap ρ1 h' := SOK.ext_keep (fun b o e => kb b o (fun z => by rw [z, size_none] at e; cases e) e)
  have F1' := F1.step S1 E1'
  rw [show ((ns.map X.NM).reverse.map fun n => bindName env n) = ns.reverse.map fun x => bindName env (X.NM x) by rw [← List.map_reverse, List.map_map]; rfl]
  refine wpAny_bind (wpAny_mono (bindL_ok K.xo (xs := ns.reverse) (vs := vs.reverse) (fun x hx => hk x (List.mem_reverse.mp hx)) (by rw [List.length_reverse, List.length_reverse, hl]) S1' F1' (VRs.reverse (rv.mono (S1.mono E1') (List.prefix_refl _)))) (fun u s2 h2 => wpAny_pure ?_) no_no)
  exact Exists.elim (GP.of ((E1.trans E1').toB S) (FrR.alive (s := { s1 with heap := h' }) F1') h2) fun ρ2 q => ⟨ρ2, q.1, q.2.1, q.2.2.same fun y => (putL_rev m5 hl y).symm, rfl⟩
end
theorem asgT_ok (K : AllOK X G C d mg mb) {ts : List Tg} {e : E} : StOK X G C d n md (.asgT ts e) := by
  intro x A env fr fr' ρ H H' s fl m ex R S F
  refine xAsg_e m fun l v q m => b1_e m fun x0 m => xTup_e (x := x0) m fun xs k p m => and_e m fun m _ => and_e m fun m m5 => and_e m fun m m4 => and_e m fun m m3 => and_e m fun m1 m2 => i_asgT ex fun vs h1 fr2 h2 ew et => ?_
  have hs : swapsWithSole [.Tuple xs k p] v q.line env = pure false := (mE_noset (env := env) m2 (neg_e m3)).1 (.Tuple xs k p) q.line
  refine (swapped_cases (env := env) xs k p v (neg_e m4)).elim (fun hw => asgT_plain K m1 m2 ew et hs hw R S F) fun q => Exists.elim q fun f q => ?_
  obtain ⟨ns, rfl, hn, hk⟩ := swap_names q.2.2 m1 q.2.1
  obtain ⟨rfl, rfl, hl⟩ := stTs_loc et
  exact asgT_swap K m2 (distinct_nodup (names_loc ns ▸ m5)) ew hl hk hs (q.1.trans (by rw [hn])) R S F
theorem ann_none {as : List Arg} (h : as.all (·.annotation.isNone) = true) : annotationsOf as env = [] := by
  induction as with
  | nil => rfl
  | cons a as ih =>
    obtain ⟨nm, an, ps⟩ := a
    cases an with
    | none => exact ih h
    | some _ => exact nomatch (show false = true from h)
theorem fdef_q {t : Tg} {name : Str} (mt : mTgN X.NM env.scope.names t name = true) : qualnameIn env name name = env.qual ++ name := by
  unfold qualnameIn
  have : (env.kindOf name == some NameKind.globalExplicit) = false := by
    unfold Env.kindOf
    cases t <;> exact and_e mt fun mt _ => and_e mt fun _ mt => by rw [isK_spec mt]; rfl
  rw [this]; rfl
theorem fdef_a {args : Arguments} (m3 : plainArgs args = true) : annTrees args none env = [] := by
  obtain ⟨as, rfl, m3⟩ := plainArgs_t m3
  show annotationsOf (_ ++ [] ++ [] ++ [] ++ []) env ++ [] = []
  rw [List.append_nil, List.append_nil, List.append_nil, List.append_nil, List.append_nil]
  exact ann_none m3
theorem fdef_ok (K : AllOK X G C d mg mb) {t : Tg} {k : Nat} {fv : List Nat} : StOK X G C d n md (.fdef t k fv) := by
  intro x A env fr fr' ρ H H' s fl m ex R S F
  refine xFd_e m fun name args body decs ret tps sc ts bind pos m => b0_e (l := decs) m fun m => bN_e (o := ret) m fun m => b0_e (l := tps) m fun m => bN_e (o := ts) m fun m => and_e m fun m m6 => and_e m fun m m5 => and_e m fun m m4 => and_e m fun m m3 => and_e m fun m1 m2 => ?_
  refine i_fdef ex fun cs fr1 h1 hcs et => ?_
  refine nm_e (P := fun name => md k name pos args (.stmts body) sc = true → wpAny (Mx X) A (exec (.FunctionDef name args body [] none [] sc none bind pos) env) (FP X md env ρ s.heap .nxt fr1 h1) No s) m2 (fun m6 => ?_) m6
  rw [exec_def, plain_dflt m4, fdef_a m4, fdef_q m1]
  refine wpAny_bind (wpAny_standAt ?_)
  refine wpAny_bind (wpAny_holding ?_)
  refine wpAny_bind (wpAny_pure ?_)
  refine wpAny_bind (wpAny_holding (wpAny_pure ?_))
  refine wpAny_holding ?_
  refine wpAny_bind (wpAny_pure ?_)
  refine ep_bind S F (make_ok K.xo S F m4 m6 m3 hcs (Option.isNone_iff_eq_none.mp m5)) fun c s1 ρ1 E1 S1 r1 F1 k1 => ?_
  exact wpAny_bind (wpAny_standAt (wpAny_bind (wpAny_bindName (wpAny_mono (asg_end K.xo (E1.toB S) S1 F1 r1 et m1) (fun u s2 h2 => wpAny_pure h2) no_no))))
@[elab_as_elim] theorem loop_e {go : Fr → MH → Out} {q : Fl × Fr × MH} {h : Heap} {fl : Fl} {fr' : Fr} {H' : MH} {f : Flow} {P : Flow → Prop} (e : loopF go q = some (fl, fr', H')) (r : FlR X h ρ q.1 f) (kn : go q.2.1 q.2.2 = some (fl, fr', H') → P .next ∧ P .cont) (kb : fl = .nxt → q.2 = (fr', H') → P .brk) (kr : ∀ c, FlR X h ρ fl (.ret c) → q.2 = (fr', H') → P (.ret c)) : P f := by
  obtain ⟨f1, fr1, h1⟩ := q
  cases f1 with
  | nxt => cases (show f = .next from r); exact (kn e).1
  | cnt => cases (show f = .cont from r); exact (kn e).2
  | brk =>
    cases (show f = .brk from r)
    have e := Option.some.inj e
    exact kb (congrArg (·.1) e).symm (congrArg (·.2) e)
  | ret w =>
    obtain ⟨c, rfl, r⟩ := r
    have e := Option.some.inj e
    exact kr c ((congrArg (·.1) e : Fl.ret w = fl) ▸ ⟨c, rfl, r⟩) (congrArg (·.2) e)
theorem whl_e {test : Fr → MH → Option (Bool × MH)} {body : Fr → MH → Out} {k : Nat} {fr : Fr} {h : MH} {r : Fl × Fr × MH} {Q : Prop} (e : whlL test body (k + 1) fr h = some r) (k1 : ∀ h1, test fr h = some (false, h1) → some (Fl.nxt, fr, h1) = some r → Q)
    (k2 : ∀ h1 q, test fr h = some (true, h1) → body fr h1 = some q → loopF (whlL test body k) q = some r → Q) : Q :=
  bnd_e e fun p e1 e => bif_e e (fun g e => bnd_e e fun q e2 e => k2 p.2 q (pr_e e1 g) e2 e) fun g e => k1 p.2 (pr_e e1 g) e
theorem for_e {nx : It → MH → Option (Option (V × It) × MH)} {st : V → Fr → MH → Option (Fr × MH)} {body : Fr → MH → Out} {k : Nat} {it : It} {fr : Fr} {h : MH} {r : Fl × Fr × MH} {Q : Prop}
    (e : forL nx (fun v fr h => (st v fr h).bind fun q => body q.1 q.2) (k + 1) it fr h = some r) (k1 : ∀ h1, nx it h = some (none, h1) → some (Fl.nxt, fr, h1) = some r → Q)
    (k2 : ∀ v it' h1 fr2 h2 q, nx it h = some (some (v, it'), h1) → st v fr h1 = some (fr2, h2) → body fr2 h2 = some q → loopF (forL nx (fun v fr h => (st v fr h).bind fun q => body q.1 q.2) k it') q = some r → Q) : Q :=
  bnd_e e fun p e1 e => by
    obtain ⟨o, h1⟩ := p
    cases o with
    | none => exact k1 h1 e1 e
    | some x => exact bnd_e (o := (st x.1 fr h1).bind fun q => body q.1 q.2) e fun q e2 e => bnd_e e2 fun b e2 e3 => k2 x.1 x.2 h1 b.1 b.2 q e1 e2 e3 e
/-- a loop, turn by turn -/
structure WInv (X : Cx) (md : Md) (h0 : Heap) (ρ0 : List Addr) (env : Env) (ρ : List Addr) (H : MH) (fr : Fr) (s : Shared) : Prop where
  E : ExtB X (some env.locals) ρ0 h0 ρ s.heap
  S : SOK X ρ H s
  F : FrR X md ρ s.heap env fr
section
variable {h0 : Heap} {ρ0 ρ' : List Addr} {H' : MH} {s' : Shared} {fr' : Fr}
theorem WInv.turn (W : WInv X md h0 ρ0 env ρ H fr s) (E : ExtB X (some env.locals) ρ s.heap ρ' s'.heap) (S : SOK X ρ' H' s') (F : FrR X md ρ' s'.heap env fr') : WInv X md h0 ρ0 env ρ' H' fr' s' := ⟨W.E.trans E fun I q => Option.some.inj q ▸ W.F.alive, S, F⟩
theorem WInv.fp (W : WInv X md h0 ρ0 env ρ H fr s) {fl : Fl} {f : Flow} {fr' : Fr} {H' : MH} (e : (fr, H) = (fr', H')) (r : FlR X s.heap ρ fl f) : FP X md env ρ0 h0 fl fr' H' f s := by
  cases e
  exact ⟨ρ, W.E, W.S, W.F, r⟩
theorem WInv.item (W : WInv X md h0 ρ0 env ρ H fr s) (K : AllOK X G C d mg mb) {itv : Value} {it it' : It} {v : V} (I : ItR X h0 ρ s.heap it itv) (e : nextI C it H = some (some (v, it'), H')) (R : Room A d) {Q : Option Value → Shared → Prop} {E : Value → Shared → Prop}
    (k : ∀ ρ' s' cv, WInv X md h0 ρ0 env ρ' H' fr s' → ItR X h0 ρ' s'.heap it' itv → VR X s'.heap ρ' v cv → Q (some cv) s') : wpAny (Mx X) A (pyNext itv) Q E s :=
  wno (wpAny_mono (next_ok K.xo K.ci e R W.S I) (fun o s6 h6 => by
    obtain ⟨ρ6, EB6, S6, cv, rfl, rv, I6, ax6⟩ := h6
    exact k ρ6 s6 cv ⟨W.E.aux EB6 W.F.alive (aux_base I), S6, W.F.stepB EB6 (Exists.elim W.F.loc fun m q => aux_ne I q.1)⟩ I6 rv) no_no)
theorem WInv.stop (W : WInv X md h0 ρ0 env ρ H fr s) (K : AllOK X G C d mg mb) {itv : Value} {it : It} (I : ItR X h0 ρ s.heap it itv) (e : nextI C it H = some (none, H')) (R : Room A d) {Q : Option Value → Shared → Prop} {E : Value → Shared → Prop}
    (k : ∀ ρ' s', WInv X md h0 ρ0 env ρ' H' fr s' → Q none s') : wpAny (Mx X) A (pyNext itv) Q E s :=
  wno (wpAny_mono (next_ok K.xo K.ci e R W.S I) (fun o s6 h6 => by
    obtain ⟨ρ6, EB6, S6, rfl⟩ := h6
    exact k ρ6 s6 ⟨W.E.aux EB6 W.F.alive (aux_base I), S6, W.F.stepB EB6 (Exists.elim W.F.loc fun m q => aux_ne I q.1)⟩) no_no)
theorem WInv.bind (W : WInv X md h0 ρ0 env ρ H fr s) (K : AllOK X G C d mg mb) {itv : Value} {it : It} {t : Tg} {id : Str} {px : Pos} {v : V} {cv : Value} (I : ItR X h0 ρ s.heap it itv) (es : stT t v fr H = some (fr', H')) (mt : mTgN X.NM env.scope.names t id = true) (rv : VR X s.heap ρ v cv) {Q : Unit → Shared → Prop} {E : Value → Shared → Prop}
    (k : ∀ s', WInv X md h0 ρ0 env ρ H' fr' s' → ItR X h0 ρ s'.heap it itv → Q () s') : wpAny (Mx X) A (assign (.Name id px) env cv) Q E s :=
  wpAny_assign_Name (wno (wpAny_mono (stT_ok K.xo es mt W.S W.F rv) (fun u s5 z => k s5 (W.turn z.2.2 z.1 z.2.1) (I.stepB z.2.2 fun J q y => Exists.elim W.F.loc fun m n => aux_ne I n.1 (by rw [q, y]))) no_no))
theorem WInv.test (W : WInv X md h0 ρ0 env ρ H fr s) (K : AllOK X G C d mg mb) {t : T} {x : Expr} {b : Bool} (m : mT X.NM md env.scope.names t x = true) (et : fT G C n t fr H = some (b, H')) (R : Room A d) {Q : Bool → Shared → Prop} {E : Value → Shared → Prop}
    (k : ∀ ρ' s', WInv X md h0 ρ0 env ρ' H' fr s' → Q b s') : wpAny (Mx X) A (isTrue x env (eval x env)) Q E s :=
  wno (bpT (t_ok K t) m et R W.S W.F fun s2 ρ2 E2 S2 F2 => k ρ2 s2 (W.turn (E2.toB W.S) S2 F2))
theorem WInv.body (W : WInv X md h0 ρ0 env ρ H fr s) {b : Ss} {b' : List Stmt} (hb : SsOK X G C d n md b) (m : mSs X.NM md env.scope.names b b' = true) {q : Fl × Fr × MH} (eb : fSs G C n b fr H = some q) (R : Room A d) {Q : Flow → Shared → Prop} {E : Value → Shared → Prop}
    (k : ∀ ρ' s' f, WInv X md h0 ρ0 env ρ' q.2.2 q.2.1 s' → ExtB X (some env.locals) ρ s.heap ρ' s'.heap → FlR X s'.heap ρ' q.1 f → Q f s') : wpAny (Mx X) A (execs b' env) Q E s :=
  wno (wpAny_mono (hb m (fl := q.1) (fr' := q.2.1) (H' := q.2.2) eb R W.S W.F) (fun f s3 hf => Exists.elim hf fun ρ3 z => k ρ3 s3 f (W.turn z.1 z.2.1 z.2.2.1) z.1 z.2.2.2) no_no)
end
theorem whl_ok (K : AllOK X G C d mg mb) {t : T} {b : Ss} (hb : SsOK X G C d n md b) : StOK X G C d n md (.whl t b) := by
  intro x A env fr fr' ρ H H' s fl m ex R S F
  refine xWhl_e m fun t' b' o' p m => b0_e (l := o') m fun m => and_e m fun m1 m2 => ?_
  refine wpAny_While (codeAny_whileLoop (fun k s' => ∃ ρ1 fr1 H1, whlL (fT G C n t) (fSs G C n b) k fr1 H1 = some (fl, fr', H') ∧ WInv X md s.heap ρ env ρ1 H1 fr1 s') ?_ n ⟨ρ, fr, H, ex, Ext.refl.toB S, S, F⟩)
  intro k s1 hh
  refine Exists.elim hh fun ρ1 hh => Exists.elim hh fun fr1 hh => Exists.elim hh fun H1 hh => ?_
  cases k with
  | zero => exact no_some hh.1
  | succ k =>
    refine whl_e hh.1 (fun H2 et er => ?_) fun H2 q et eb er => ?_
    · refine hh.2.test K m1 et R fun ρ2 s2 W2 => ?_
      exact wpAny_execs_nil (flow_e er (W2.fp rfl rfl))
    · refine hh.2.test K m1 et R fun ρ2 s2 W2 => ?_
      refine W2.body hb m2 eb R fun ρ3 s3 f W3 E3 hfl => ?_
      exact loop_e er hfl (fun e => ⟨⟨k, Nat.lt_succ_self k, ρ3, _, _, e, W3⟩, ⟨k, Nat.lt_succ_self k, ρ3, _, _, e, W3⟩⟩) (fun g e => W3.fp e (by rw [g]; rfl)) fun c r e => W3.fp e r
theorem forr_ok (K : AllOK X G C d mg mb) {t : Tg} {it : E} {b : Ss} (hb : SsOK X G C d n md b) : StOK X G C d n md (.forr t it b) := by
  intro x A env fr fr' ρ H H' s fl m ex R S F
  refine xFor_e m fun x' it' b' o' p m => b0_e (l := o') m fun m => and_e m fun m m4 => and_e m fun m m3 => and_e m fun m1 m2 => mTg_e m1 fun id px mt => i_forr ex fun vi h1 j ei ej ex => ?_
  refine wpAny_For (ep_bind S F (e_ok K it m3 ei R S F) fun c s1 ρ1 E1 S1 r1 F1 k1 => wpAny_mono (iter_ok K.ct.it ej S1 r1) (fun ci s2 h2 => ?_) no_no) fun x => isSet_plain (neg_e m2) x
  have E2 : Ext X ρ1 s1.heap ρ1 s2.heap := SOK.ext_keep h2.1
  refine codeAny_forLoop_any (fun k s' => ∃ ρ3 fr3 H3 it3, forL (nextI C) (fun v fr h => (stT t v fr h).bind fun q => fSs G C n b q.1 q.2) k it3 fr3 H3 = some (fl, fr', H') ∧ WInv X md s1.heap ρ1 env ρ3 H3 fr3 s' ∧ ItR X s1.heap ρ3 s'.heap it3 ci) ?_ n ⟨ρ1, fr, h1, j, ex, ⟨E2.toB S1, h2.2.1, F1.step S1 E2⟩, h2.2.2⟩
  intro k s3 hh
  refine Exists.elim hh fun ρ3 hh => Exists.elim hh fun fr3 hh => Exists.elim hh fun H3 hh => Exists.elim hh fun it3 hh => ?_
  have W3 := hh.2.1
  have I3 := hh.2.2
  cases k with
  | zero => exact no_some hh.1
  | succ k =>
    refine for_e hh.1 (fun H4 en er => ?_) fun v it4 H4 fr5 H5 q en es eb er => ?_
    · exact W3.stop K I3 en R fun ρ4 s4 W4 => wpAny_execs_nil (flow_e er (FP.of (E1.toB S) F1.alive (W4.fp rfl rfl)))
    · refine W3.item K I3 en R fun ρ4 s4 cv W4 I4 rv => wpAny_pure (W4.bind K I4 es mt rv fun s5 W5 I5 => W5.body hb m4 eb R fun ρ6 s6 f W6 E6 hfl => ?_)
      have I6 := I5.stepB E6 fun I q z => Exists.elim W5.F.loc fun m n => aux_ne I5 n.1 (by rw [q, z])
      exact loop_e er hfl (fun e => ⟨⟨k, Nat.lt_succ_self k, ρ6, _, _, it4, e, W6, I6⟩, ⟨k, Nat.lt_succ_self k, ρ6, _, _, it4, e, W6, I6⟩⟩) (fun g e => FP.of (E1.toB S) F1.alive (W6.fp e (by rw [g]; rfl))) fun c r e => FP.of (E1.toB S) F1.alive (W6.fp e r)
theorem s_ok (K : AllOK X G C d mg mb) (st : St) : StOK X G C d n md st :=
  St.rec (motive_1 := fun st => StOK X G C d n md st) (motive_2 := fun ss => SsOK X G C d n md ss) (fun t e => asg_ok K) (fun ts e => asgT_ok K) (fun ts e => asgC_ok K) (fun o i e => setA_ok K) (fun o i e => setI_ok K) (fun t op e => aug_ok K) (fun o i op e => augA_ok K) (fun e => ex_ok K) (fun t a b => ifs_ok K) (fun t b => whl_ok K) (fun t it b => forr_ok K) (fun e => ret_ok K) brk_ok cnt_ok (fun t k fv => fdef_ok K) bad_ok nil_ok (fun s ss => cons_ok) st
theorem ss_ok (K : AllOK X G C d mg mb) (ss : Ss) : SsOK X G C d n md ss :=
  Ss.rec (motive_1 := fun st => StOK X G C d n md st) (motive_2 := fun ss => SsOK X G C d n md ss) (fun t e => asg_ok K) (fun ts e => asgT_ok K) (fun ts e => asgC_ok K) (fun o i e => setA_ok K) (fun o i e => setI_ok K) (fun t op e => aug_ok K) (fun o i op e => augA_ok K) (fun e => ex_ok K) (fun t a b => ifs_ok K) (fun t b => whl_ok K) (fun t it b => forr_ok K) (fun e => ret_ok K) brk_ok cnt_ok (fun t k fv => fdef_ok K) bad_ok nil_ok (fun s ss => cons_ok) ss
end
end Rz
end Q18
section Q19
open PySem PySem.W PySem.Calls PyProof.Rows
namespace Rz
set_option linter.unusedVariables false
set_option linter.unusedSimpArgs false
set_option maxRecDepth 100000

/-! functions -/
inductive MBody where
  | stmts (ss : Ss) | expr (e : E)
structure MDef where
  ps : List Tg
  cells : List Nat
  fv : List Nat
  body : MBody

noncomputable def zipN : List Nat → Nat → List (Nat × Nat)
  | [], _ => []
  | x :: xs, i => (x, i) :: zipN xs (i + 1)
noncomputable def retV (f : Fl) (h : MH) : Option (V × MH) := match f with
  | .ret v => some (v, h)
  | .nxt => some (.none, h)
  | .cnt => none
  | .brk => none
noncomputable def runB (G : Gl) (C : Call) (n : Nat) (b : MBody) (fr : Fr) (h : MH) : Option (V × MH) := match b with
  | .stmts ss => (fSs G C n ss fr h).bind fun p => retV p.1 p.2.2
  | .expr e => fE G C n e fr h
noncomputable def runDef (G : Gl) (C : Call) (n : Nat) (D : MDef) (cs : List Nat) (args : List V) (H : MH) : Option (V × MH) :=
  (stTs D.ps args ⟨[], zipN D.cells H.length ++ D.fv.zip cs⟩ (H ++ D.cells.map fun _ => .cell none)).bind fun q => runB G C n D.body q.1 q.2

section
variable (NM : Nat → Str) (md : Md)
noncomputable def mParams (ns : Ns) : List Tg → List Arg → Bool
  | [], l => b0 l true
  | t :: ts, l => bc l fun a as => mTgN NM ns t a.arg && mParams ns ts as
noncomputable def cellsAre : Ns → List Nat → Bool
  | [], l => b0 l true
  | (m, k) :: r, cs => kC k (cellsAre r cs) (bc cs fun x cs => (NM x == m) && cellsAre r cs) (cellsAre r cs)
noncomputable def mBody (ns : Ns) (b : MBody) (f : FuncBody) : Bool := match b with
  | .stmts ss => match f with
    | .stmts b => mSs NM md ns ss b
    | .expr _ => false
  | .expr e => match f with
    | .stmts _ => false
    | .expr x => mE NM md ns e x
noncomputable def mDef (D : MDef) (a : Arguments) (body : FuncBody) (sc : Scope) : Bool := b0 a.posonlyargs (bN a.vararg (b0 a.kwonlyargs (b0 a.kw_defaults (bN a.kwarg (b0 a.defaults
  (mParams NM sc.names D.ps a.args && decide (sc.kind = .function) && !sc.isCoroutine && !sc.isGenerator && cellsAre NM sc.names D.cells && freesIn NM sc.names D.fv &&
      distinct (tgNames D.ps) && distinct (D.cells ++ D.fv) && mBody NM md sc.names D.body body))))))
end
structure MDefT (NM : Nat → Str) (md : Md) (D : MDef) (as : List Arg) (body : FuncBody) (sc : Scope) : Prop where
  ps : mParams NM sc.names D.ps as = true
  kind : sc.kind = .function
  co : sc.isCoroutine = false
  gen : sc.isGenerator = false
  cells : cellsAre NM sc.names D.cells = true
  frees : freesIn NM sc.names D.fv = true
  d1 : distinct (tgNames D.ps) = true
  d2 : distinct (D.cells ++ D.fv) = true
  body : mBody NM md sc.names D.body body = true
theorem mDef_t {NM : Nat → Str} {md : Md} {D : MDef} {a : Arguments} {body : FuncBody} {sc : Scope} (m : mDef NM md D a body sc = true) : ∃ as, a = ⟨[], as, none, [], [], none, []⟩ ∧ MDefT NM md D as body sc := by
  obtain ⟨a1, a2, a3, a4, a5, a6, a7⟩ := a
  exact b0_e (l := a1) m fun m => bN_e (o := a3) m fun m => b0_e (l := a4) m fun m => b0_e (l := a5) m fun m => bN_e (o := a6) m fun m => b0_e (l := a7) m fun m =>
    and_e m fun m m9 => and_e m fun m m8 => and_e m fun m m7 => and_e m fun m m6 => and_e m fun m m5 => and_e m fun m m4 => and_e m fun m m3 => and_e m fun m1 m2 => ⟨a2, rfl, m1, of_decide_eq_true m2, neg_e m3, neg_e m4, m5, m6, m7, m8, m9⟩

section
variable {X : Cx} {G : Gl} {C : Call} {d n : Nat} {md : Md} {A : Around} {ρ : List Addr} {H : MH} {s : Shared} {env : Env} {fr : Fr} {mg mb : Str → Option Value} {NM : Nat → Str}

theorem zip_lookup : ∀ {ns : List Str} {vs : List Value}, ns.Nodup → ns.length = vs.length → ns.filterMap (fun n => ((ns.zip vs).lookup n).map (n, ·)) = ns.zip vs := by
  have key : ∀ (ns : List Str) (vs : List Value) (pre : List (Str × Value)), (∀ n ∈ ns, pre.lookup n = none) → ns.Nodup → ns.length = vs.length → ns.filterMap (fun n => ((pre ++ ns.zip vs).lookup n).map (n, ·)) = ns.zip vs := by
    intro ns
    induction ns with
    | nil => intro vs pre _ _ h; rfl
    | cons x ns ih =>
      intro vs pre hp nd hl
      cases vs with
      | nil => cases hl
      | cons v vs =>
        obtain ⟨n1, n2⟩ := List.nodup_cons.mp nd
        rw [List.zip_cons_cons, List.filterMap_cons]
        have h1 : (pre ++ (x, v) :: ns.zip vs).lookup x = some v := by
          rw [List.lookup_append, hp x (by simp), lookup_cons_eq, if_pos rfl]; rfl
        rw [h1]
        show (x, v) :: _ = _
        congr 1
        have h2 := ih vs (pre ++ [(x, v)]) (fun m hm => by
          rw [List.lookup_append, hp m (by simp [hm]), lookup_cons_eq, if_neg (fun q => n1 (by rw [← q]; exact hm))]; rfl) n2 (by simpa using hl)
        rw [List.append_assoc] at h2
        exact h2
  intro ns vs nd hl
  exact key ns vs [] (by simp) nd hl
theorem zip_has {ns : List Str} {vs : List Value} (hl : ns.length = vs.length) : ∀ n ∈ ns, ((ns.zip vs).lookup n).isSome = true := by
  induction ns generalizing vs with
  | nil => exact fun n h => nomatch h
  | cons x ns ih => cases vs with
    | nil => exact nomatch hl
    | cons v vs =>
      intro n h
      rw [List.zip_cons_cons, lookup_cons_eq]
      by_cases q : n = x
      · rw [if_pos q]; rfl
      · rw [if_neg q]
        exact (List.mem_cons.mp h).elim (fun h => absurd h q) (ih (Nat.succ.inj hl) n)
theorem if_no {α : Type} {c : Prop} [d : Decidable c] {x y z : α} (h : ¬c) (e : y = z) : (if c then x else y) = z := (if_neg h).trans e
theorem missing_nil {α : Type} [BEq α] {l : List (α × Value)} {ns : List α} (h : ∀ n ∈ ns, (l.lookup n).isSome = true) : (ns.filter fun n => (l.lookup n).isNone) = [] := by
  rw [List.filter_eq_nil_iff]
  intro n hn
  have := h n hn
  revert this
  cases l.lookup n <;> simp
theorem binds_eq {fd : FuncData} {as : List Arg} {vals : List Value} (hp : fd.params = ⟨[], as, none, [], [], none, []⟩) (hd : fd.defaults = .none) (hl : (as.map (·.arg)).length = vals.length)
   (hz : ∀ n ∈ as.map (·.arg), (((as.map (·.arg)).zip vals).lookup n).isSome = true)
   (h2 : (as.map (·.arg)).filterMap (fun n => (((as.map (·.arg)).zip vals).lookup n).map (n, ·)) = (as.map (·.arg)).zip vals) : bindArgs fd ⟨vals, []⟩ = pure ((as.map (·.arg)).zip vals) := by
  cases fd
  subst hp
  subst hd
  refine if_no (c := (decide (vals.length > (as.map (·.arg)).length) && true) = true) ?_ ?_
  · rw [hl]; simp
  have h0 : ∀ k, List.drop k ((none : Option (Array Value)).getD #[]).toList = [] := fun k => List.drop_nil
  rw [h0]
  refine if_no (c := (!(((as.map (·.arg)).take ((as.map (·.arg)).length - 0)).filter fun n => (((as.map (·.arg)).zip vals).lookup n).isNone).isEmpty) = true) ?_ ?_
  · rw [Nat.sub_zero, List.take_length, missing_nil hz]; decide
  rw [List.zip_nil_right]
  show (Pure.pure (List.filterMap (fun n => (List.lookup n ((as.map (·.arg)).zip vals)).map (n, ·)) (as.map (·.arg) ++ [])) : Sem (List (Str × Value))) = _
  rw [List.append_nil, h2]
theorem binds_ok {fd : FuncData} {as : List Arg} {vals : List Value} {E : Value → Shared → Prop} {Q : List (Str × Value) → Shared → Prop} (hp : fd.params = ⟨[], as, none, [], [], none, []⟩) (hd : fd.defaults = .none) (nd : (as.map (·.arg)).Nodup) (hl : as.length = vals.length)
    (h : Q ((as.map (·.arg)).zip vals) s) : wpAny (Mx X) A (bindArgs fd ⟨vals, []⟩) Q E s := by
  have hl' : (as.map (·.arg)).length = vals.length := (List.length_map _).trans hl
  rw [binds_eq hp hd hl' (zip_has hl') (zip_lookup nd hl')]
  exact wpAny_pure h

/-- the cells that a call lays -/
theorem ca_e {r : Ns} {m : Str} {k : NameKind} {cs : List Nat} {P : NameKind → List Nat → Prop} (h : cellsAre NM ((m, k) :: r) cs = true) (k1 : ∀ x cs, NM x = m → cellsAre NM r cs = true → P .cell (x :: cs)) (k2 : k ≠ .cell → cellsAre NM r cs = true → P k cs) : P k cs := by
  cases k with
  | cell => exact bc_e h fun x cs h => and_e h fun h1 h3 => k1 x cs (eq_of_beq h1) h3
  | _ => exact k2 (fun q => nomatch q) h
theorem pushCells_no {h : Heap} {m : Str} {k : NameKind} {r : Ns} (hk : k ≠ .cell) : pushCells h ((m, k) :: r) = pushCells h r := by
  cases k <;> first | rfl | exact absurd rfl hk
theorem cellsFrom_no {n : Nat} {acc : List (Str × Addr)} {m : Str} {k : NameKind} {r : Ns} (hk : k ≠ .cell) : cellsFrom n ((m, k) :: r) acc = cellsFrom n r acc := by
  cases k <;> first | rfl | exact absurd rfl hk
theorem pushCells_ok (names : Ns) {cells : List Nat} {ρ : List Addr} {H : MH} {s : Shared} (h : cellsAre NM names cells = true) (S : SOK X ρ H s) :
    SOK X (ρ ++ List.range' s.heap.objs.size cells.length) (H ++ cells.map fun _ => .cell none) { s with heap := pushCells s.heap names } ∧ Ext X ρ s.heap (ρ ++ List.range' s.heap.objs.size cells.length) (pushCells s.heap names) := by
  induction names generalizing cells ρ H s with
  | nil => exact b0_e h fun _ => by rw [List.length_nil, List.range'_zero, List.append_nil, List.map_nil, List.append_nil]; exact ⟨S, Ext.refl⟩
  | cons p r ih =>
    obtain ⟨m, k⟩ := p
    refine ca_e (P := fun k cells => SOK X (ρ ++ List.range' s.heap.objs.size cells.length) (H ++ cells.map fun _ => .cell none) { s with heap := pushCells s.heap ((m, k) :: r) } ∧ Ext X ρ s.heap (ρ ++ List.range' s.heap.objs.size cells.length) (pushCells s.heap ((m, k) :: r))) h (fun x cs hx h => ?_) fun hk h => by rw [pushCells_no hk]; exact ih h S
    have p1 := S.alloc (s' := { s with heap := s.heap.push { cls := .type "cell", data := .cell none } }) (o := .cell none) (keep_push _ _) (size_none _) ⟨none, ⟨_, Heap.get?_push_size _ rfl, rfl⟩, rfl⟩ rfl rfl
    have p2 := ih h p1.1
    dsimp only at p2
    rw [Heap.size_push, List.append_assoc, List.append_assoc] at p2
    rw [List.length_cons, List.range'_succ]
    exact ⟨p2.1, p1.2.trans p2.2⟩
theorem cellsFrom_spec (inj : ∀ x y, NM x = NM y → x = y) (names : Ns) {cells : List Nat} (n : Nat) (acc : List (Str × Addr)) (h : cellsAre NM names cells = true) (nd : cells.Nodup) :
    (∀ (j x : Nat), cells[j]? = some x → (cellsFrom n names acc).lookup (NM x) = some (n + j)) ∧ (∀ y, (∀ x ∈ cells, NM x ≠ y) → (cellsFrom n names acc).lookup y = acc.lookup y) := by
  induction names generalizing cells n acc with
  | nil => exact b0_e h fun _ => ⟨fun j x e => no_some e, fun y _ => rfl⟩
  | cons p r ih =>
    obtain ⟨m, k⟩ := p
    revert nd
    refine ca_e (P := fun k cells => cells.Nodup → (∀ (j x : Nat), cells[j]? = some x → (cellsFrom n ((m, k) :: r) acc).lookup (NM x) = some (n + j)) ∧ (∀ y, (∀ x ∈ cells, NM x ≠ y) → (cellsFrom n ((m, k) :: r) acc).lookup y = acc.lookup y)) h (fun x cs hx h nd => ?_) fun hk h nd => by rw [cellsFrom_no hk]; exact ih n acc h nd
    obtain ⟨n1, n2⟩ := List.nodup_cons.mp nd
    obtain ⟨h1, h2⟩ := ih (n + 1) ((m, n) :: acc) h n2
    refine ⟨fun j y e => ?_, fun y hy => ?_⟩
    · cases j with
      | zero =>
        cases e
        exact (h2 _ (fun z hz q => n1 (by rw [← inj _ _ q]; exact hz))).trans (by rw [lookup_cons_eq, if_pos hx]; rfl)
      | succ j => exact (h1 j y e).trans (congrArg some (Nat.succ_add_eq_add_succ n j))
    · exact (h2 y (fun z hz => hy z (List.mem_cons_of_mem _ hz))).trans (by rw [lookup_cons_eq, if_neg (fun q => hy x (List.mem_cons_self ..) (by rw [hx, q]))])
theorem bindP_ok (XO : XOK X G mg mb) (f : Str × Value → PUnit → Sem (ForInStep PUnit)) (hf : ∀ n v u, f (n, v) u = (do storeName env n v; pure (.yield ⟨⟩))) {ts : List Tg} {as : List Arg} {vs : List V} {fr fr' : Fr} {H H' : MH} {ρ : List Addr} {s : Shared} {cs : List Value}
    (m : mParams X.NM env.scope.names ts as = true) (e : stTs ts vs fr H = some (fr', H')) (S : SOK X ρ H s) (F : FrR X md ρ s.heap env fr) (r : VRs X s.heap ρ vs cs) :
    wpAny (Mx X) A (forIn ((as.map (·.arg)).zip cs) ⟨⟩ f) (fun _ s' => GP X md env ρ s.heap fr' H' s') No s := by
  induction ts generalizing as vs fr H ρ s cs with
  | nil => exact b0_e m fun _ => nilL_e (P := fun _ => _) e fun e => fh_e e (by
      rw [List.map_nil, List.zip_nil_left, List.forIn_nil]
      exact wpAny_pure (GP.same S F))
  | cons t ts ih => cases vs with
    | nil => exact no_some e
    | cons v vs =>
      refine bc_e m fun x xs m => and_e m fun m1 m2 => VRs.cons_e r fun c cs r1 r2 => bnd_e e fun q e1 e => ?_
      rw [List.map_cons, List.zip_cons_cons, List.forIn_cons, hf]
      exact wpAny_bind (wpAny_bind (wpAny_mono (bind_one XO e1 m1 S F r1) (fun u s1 z => Exists.elim z fun ρ1 z => wpAny_pure (wpAny_mono (ih m2 e z.2.1 z.2.2 (r2.mono z.1.mono z.1.pre)) (fun u s2 h2 => GP.of z.1 z.2.2.alive h2) no_no)) no_no))
theorem lk_cons {α : Type} {y x : Nat} {v : α} {l : List (Nat × α)} : lk ((y, v) :: l) x = if y = x then some v else lk l x := by
  show (match Nat.beq y x with | true => some v | false => lk l x) = _
  rw [BT.beq_eq]
  by_cases q : y = x
  · rw [if_pos q, decide_eq_true q]
  · rw [if_neg q, decide_eq_false q]
theorem zipN_lk {xs : List Nat} {i x c : Nat} {l : List (Nat × Nat)} (h : lk (zipN xs i ++ l) x = some c) : (∃ j : Nat, xs[j]? = some x ∧ c = i + j) ∨ (x ∉ xs ∧ lk l x = some c) := by
  induction xs generalizing i with
  | nil => exact .inr ⟨List.not_mem_nil, h⟩
  | cons y ys ih =>
    have h : lk ((y, i) :: (zipN ys (i + 1) ++ l)) x = some c := h
    rw [lk_cons] at h
    by_cases q : y = x
    · rw [if_pos q] at h
      exact .inl ⟨0, congrArg some q, (Option.some.inj h).symm⟩
    · rw [if_neg q] at h
      exact (ih h).imp (fun z => Exists.elim z fun j z => ⟨j + 1, z.1, z.2.trans (Nat.succ_add_eq_add_succ i j)⟩) fun z => ⟨fun m => (List.mem_cons.mp m).elim (fun e => q e.symm) z.1, z.2⟩
theorem zip_lk {fv cs : List Nat} {x c : Nat} (h : lk (fv.zip cs) x = some c) : ∃ j : Nat, fv[j]? = some x ∧ cs[j]? = some c := by
  induction fv generalizing cs with
  | nil => exact no_some h
  | cons y fv ih => cases cs with
    | nil => exact no_some h
    | cons c' cs =>
      have h : lk ((y, c') :: fv.zip cs) x = some c := h
      rw [lk_cons] at h
      by_cases q : y = x
      · rw [if_pos q] at h
        exact ⟨0, congrArg some q, h⟩
      · rw [if_neg q] at h
        exact Exists.elim (ih h) fun j z => ⟨j + 1, z⟩
theorem params_names {ts : List Tg} {as : List Arg} {ns : Ns} (m : mParams NM ns ts as = true) : as.map (·.arg) = (tgNames ts).map NM ∧ as.length = ts.length := by
  induction ts generalizing as with
  | nil => exact b0_e m fun _ => ⟨rfl, rfl⟩
  | cons t ts ih =>
    refine bc_e m fun a as m => and_e m fun m1 m2 => ?_
    obtain ⟨h1, h2⟩ := ih m2
    have q : ∀ x, NM x = a.arg → List.map (·.arg) (a :: as) = (x :: tgNames ts).map NM := fun x q => by rw [List.map_cons, List.map_cons, h1, q]
    cases t with
    | loc x => exact ⟨q x (and_e m1 fun m1 _ => and_e m1 fun m1 _ => eq_of_beq m1), congrArg (· + 1) h2⟩
    | cel x => exact ⟨q x (and_e m1 fun m1 _ => and_e m1 fun m1 _ => eq_of_beq m1), congrArg (· + 1) h2⟩
theorem params_nodup (inj : ∀ x y, NM x = NM y → x = y) {ts : List Tg} {as : List Arg} {ns : Ns} (m : mParams NM ns ts as = true) (nd : (tgNames ts).Nodup) : (as.map (·.arg)).Nodup ∧ as.length = ts.length :=
  ⟨by rw [(params_names m).1]; exact List.Pairwise.map _ (fun a b h q => h (inj a b q)) nd, (params_names m).2⟩
theorem frame_ok (XO : XOK X G mg mb) {cells fv cs : List Nat} {sc : Scope} {binds : List (Str × Value)} {clo : List (Str × Addr)} {qual : Str} {func : Option Addr} {code : Value}
    (hk : sc.kind = .function) (hcl : CloR X ρ fv cs clo) (h1 : cellsAre X.NM sc.names cells = true) (nd1 : cells.Nodup) (S : SOK X ρ H s)
    (hmk : ∀ k nm pos args body sc, md k nm pos args body sc = true → X.mdd k args body sc = true ∧ freesIn X.NM sc.names (X.fv k) = true ∧ ∃ t ∈ X.tabs, code = .ref t.c ∧ t.line = pos.line ∧ t.col = pos.col ∧ t.q = qual ++ nm) {Q : Env → Shared → Prop}
    (k : ∀ env ρ2 s2, Ext X ρ s.heap ρ2 s2.heap → SOK X ρ2 (H ++ cells.map fun _ => .cell none) s2 → FrR X md ρ2 s2.heap env ⟨[], zipN cells H.length ++ fv.zip cs⟩ → env.scope = sc → s.heap.get? env.locals = none →
      wpAny (Mx X) A (forIn binds PUnit.unit fun (x : Str × Value) (_ : PUnit) => do storeName env x.1 x.2; pure (ForInStep.yield PUnit.unit)) (fun _ s' => Q env s') No s2) :
    wpAny (Mx X) A (newFunctionEnv sc mainGlobals clo binds qual func code none builtinsNs) Q No s := by
  simp only [newFunctionEnv, Option.isSome_none, Bool.false_eq_true, if_false]
  refine wpAny_bind (wpAny_alloc ?_)
  refine wpAny_bind (wpAny_layCells _ (fun name kind cells => by cases hkc : kind == NameKind.cell <;> simp [hkc]) _ _ _ _ ?_)
  have S1 := S.grow (s' := { s with heap := s.heap.push { cls := .type "frame", data := .dict #[] } }) (keep_push _ _) rfl rfl
  have E1 : Ext X ρ s.heap ρ (s.heap.push { cls := .type "frame", data := .dict #[] }) := SOK.ext_keep (keep_push _ _)
  have p2 := pushCells_ok sc.names h1 S1
  dsimp only at p2 ⊢
  rw [Heap.size_push] at p2 ⊢
  obtain ⟨f1, f2, f3⟩ := S.fresh (size_none s.heap)
  obtain ⟨c1, c2⟩ := cellsFrom_spec XO.inj sc.names (s.heap.objs.size + 1) clo h1 nd1
  refine wpAny_bind (wpAny_mono (k _ _ _ (E1.trans p2.2) p2.1 ⟨hk, rfl, rfl, fun m => ?_, f2, f3, ⟨_, (Heap.Ns.new s.heap (.type "frame")).keeps (pushCells_keeps _ _), fun x v q => no_some q⟩, fun x i q _ => ?_, hmk⟩ rfl (size_none _)) (fun u s3 h3 => wpAny_pure h3) no_no)
  · rcases List.mem_append.mp m with m | m
    · exact f1 m
    · obtain ⟨i, _, q⟩ := List.mem_range'.mp m
      have q' : s.heap.objs.size = s.heap.objs.size + 1 + 1 * i := q
      (first | lia | omega)
  · rcases zipN_lk q with ⟨j, h3, h4⟩ | ⟨h3, h4⟩
    · refine ⟨s.heap.objs.size + 1 + j, ?_, c1 j x h3⟩
      have hj := (List.getElem?_eq_some_iff.mp h3).1
      rw [h4, ← S.len, List.getElem?_append_right (Nat.le_add_right _ _), Nat.add_sub_cancel_left, List.getElem?_range' hj, Nat.one_mul]
    · obtain ⟨j, h5, h6⟩ := zip_lk h4
      obtain ⟨a, h7, h8⟩ := hcl.2 j x i h5 h6
      exact ⟨a, pre_get (List.prefix_append ..) h7, (c2 _ (fun z hz q => h3 (by rw [← XO.inj _ _ q]; exact hz))).trans h8⟩
theorem enter_ok (XO : XOK X G mg mb) {D : MDef} {cs : List Nat} {vs : List V} {vals : List Value} {as : List Arg} {sc : Scope} {cl : List (Str × Addr)} {qual : Str} {func : Option Addr} {code : Value} {fr1 : Fr} {H1 : MH}
    (hk : sc.kind = .function) (hcl : CloR X ρ D.fv cs cl) (h1 : cellsAre X.NM sc.names D.cells = true) (h2 : distinct (D.cells ++ D.fv) = true) (hp : mParams X.NM sc.names D.ps as = true) (S : SOK X ρ H s) (rs : VRs X s.heap ρ vs vals)
    (hmk : ∀ k nm pos args body sc, md k nm pos args body sc = true → X.mdd k args body sc = true ∧ freesIn X.NM sc.names (X.fv k) = true ∧ ∃ t ∈ X.tabs, code = .ref t.c ∧ t.line = pos.line ∧ t.col = pos.col ∧ t.q = qual ++ nm)
    (e : stTs D.ps vs ⟨[], zipN D.cells H.length ++ D.fv.zip cs⟩ (H ++ D.cells.map fun _ => .cell none) = some (fr1, H1)) :
    wpAny (Mx X) A (newFunctionEnv sc mainGlobals cl ((as.map (·.arg)).zip vals) qual func code none builtinsNs) (fun env s' => ∃ ρ', Ext X ρ s.heap ρ' s'.heap ∧ SOK X ρ' H1 s' ∧ FrR X md ρ' s'.heap env fr1 ∧ env.scope = sc ∧ s.heap.get? env.locals = none) No s :=
  frame_ok XO hk hcl h1 (List.nodup_append.mp (distinct_nodup h2)).1 S hmk fun env ρ2 s2 E2 S2 F hs hL =>
    wpAny_mono (bindP_ok XO _ (fun n v u => rfl) (hs ▸ hp) e S2 F (rs.mono (S.mono E2) E2.pre)) (fun u s3 h3 => Exists.elim h3 fun ρ3 z => ⟨ρ3, E2.transB z.1 (fun I q => Option.some.inj q ▸ hL), z.2.1, z.2.2, hs, hL⟩) no_no
@[elab_as_elim] theorem retV_e {fl : Fl} {f : Flow} {h : Heap} {H1 H' : MH} {v : V} {P : Flow → Prop} (e : retV fl H1 = some (v, H')) (r : FlR X h ρ fl f) (k1 : H1 = H' → VR X h ρ v .none → P .next) (k2 : ∀ c, H1 = H' → VR X h ρ v c → P (.ret c)) : P f := by
  cases fl with
  | nxt =>
    cases (show f = .next from r)
    cases e
    exact k1 rfl rfl
  | cnt => exact no_some e
  | brk => exact no_some e
  | ret w =>
    obtain ⟨c, rfl, r⟩ := r
    cases e
    exact k2 c rfl r
/-- a call of a written function -/
theorem def_code (K : AllOK X G C d mg mb) {D : MDef} {cs : List Nat} {vs : List V} {v : V} {H' : MH} {vals : List Value} {a : Addr} {o : Obj} {fd : FuncData} (e : runDef G C n D cs vs H = some (v, H')) (R : Room A (d + 1)) (S : SOK X ρ H s)
    (ho : s.heap.get? a = some o) (hd : o.data = .func fd) (hm : mDef X.NM md D fd.params fd.body fd.scope = true) (hg : fd.globals = mainGlobals) (hb : fd.builtins = builtinsNs) (hdef : fd.defaults = .none)
    (hc : ∃ c, fd.code = .ref c ∧ CodeGood s.heap c fd.qualname) (hcl : CloR X ρ D.fv cs fd.closure)
    (hmk : ∀ k nm pos args body sc, md k nm pos args body sc = true → X.mdd k args body sc = true ∧ freesIn X.NM sc.names (X.fv k) = true ∧ ∃ t ∈ X.tabs, fd.code = .ref t.c ∧ t.line = pos.line ∧ t.col = pos.col ∧ t.q = (fd.qualname ++ ".<locals>.") ++ nm)
    (rs : VRs X s.heap ρ vs vals) : codeAny (Mx X) A (.call (.ref a) ⟨vals, []⟩) (fun r s' => match r with | .ok (.ret c) => EP X ρ s.heap v H' c s' | .ok _ => False | .error e => No e s') s := by
  have hroom : A.depth < recursionLimit := by have := R.depth; show A.depth < 1000; (first | lia | omega)
  have R' : ∀ env, Room (A.deeper env) d := fun env => ⟨R.handled, by have := R.depth; show A.depth + 1 + d < 990; (first | lia | omega), by have := R.units; show A.units + 3 + 8 * d < 9000; (first | lia | omega)⟩
  obtain ⟨c, hc1, oc, vc, tc, hc2, hc3, hc4, hc5⟩ := hc
  have hcd : s.heap.CodeRec fd.code fd.qualname := ⟨c, oc, vc, tc, hc1, hc2, hc4, hc5⟩
  obtain ⟨as, hpar, M⟩ := mDef_t hm
  refine bnd_e e fun q et e => ?_
  have ndl := params_nodup K.xo.inj M.ps (distinct_nodup M.d1)
  have hl : as.length = vals.length := by rw [VRs.length rs, ← stTs_len et, ndl.2]
  have lim : ∀ {ρ2 : List Addr} {H2 : MH} {s2 : Shared}, SOK X ρ2 H2 s2 → s2.heap.NoLimit := fun S2 => Exists.elim K.xo.lim fun mc h => ⟨mc, Ns.step h.1 fun x q => S2.base _ _ q K.xo.limT, h.2⟩
  have body : ∀ {Q : Result → Shared → Prop} {code : Env → Code}, (∀ env s1 ρ1, Ext X ρ s.heap ρ1 s1.heap → SOK X ρ1 q.2 s1 → FrR X md ρ1 s1.heap env q.1 → env.scope = fd.scope → s.heap.get? env.locals = none → codeAny (Mx X) A (code env) Q s1) →
      wpAny (Mx X) A.in1 (bindArgs fd ⟨vals, []⟩) (fun binds s₁ =>
        wpAny (Mx X) A.in1 (newFunctionEnv fd.scope fd.globals fd.closure binds (fd.qualname ++ ".<locals>.") (some a) fd.code none fd.builtins)
          (fun env s₂ => s₂.heap.NoLimit ∧ codeAny (Mx X) A (code env) Q s₂) (fun e s' => Q (.error e) s') s₁) (fun e s' => Q (.error e) s') s := by
    intro Q code hcode
    refine binds_ok hpar hdef ndl.1 hl ?_
    rw [hg, hb]
    refine wno (wpAny_mono (enter_ok K.xo M.kind hcl M.cells M.d2 M.ps S rs hmk et) (fun env s1 h1 => Exists.elim h1 fun ρ1 z => ⟨lim z.2.1, hcode env s1 ρ1 z.1 z.2.1 z.2.2.1 z.2.2.2.1 z.2.2.2.2⟩) no_no)
  have m9 := M.body
  cases hD : D.body with
  | stmts ss =>
    rw [hD] at m9 e
    cases hB : fd.body with
    | expr x => rw [hB] at m9; exact nomatch (show false = true from m9)
    | stmts b =>
      rw [hB] at m9
      refine codeAny_call_function hroom ho hd M.co M.gen hB hcd (body fun env s1 ρ1 E1 S1 F1 hs hL => codeAny_func (bnd_e e fun p ex e => ?_))
      refine wno (wpAny_mono (ss_ok K ss (fl := p.1) (fr' := p.2.1) (H' := p.2.2) (hs ▸ m9) ex (R' env) S1 F1) (fun f s2 h2 => Exists.elim h2 fun ρ2 z => ?_) no_no)
      exact retV_e e z.2.2.2 (fun g r => ⟨ρ2, E1.transB z.1 (fun I q => Option.some.inj q ▸ hL), g ▸ z.2.1, r⟩) fun c g r => ⟨ρ2, E1.transB z.1 (fun I q => Option.some.inj q ▸ hL), g ▸ z.2.1, r⟩
  | expr ee =>
    rw [hD] at m9 e
    cases hB : fd.body with
    | stmts x => rw [hB] at m9; exact nomatch (show false = true from m9)
    | expr b =>
      rw [hB] at m9
      exact kla_callFunE hroom ho hd M.co M.gen hB hcd (body fun env s1 ρ1 E1 S1 F1 hs hL => kla_codeExpr (wno (wpAny_mono (e_ok K ee (hs ▸ m9) e (R' env) S1 F1) (fun c' s2 h2 => h2.trans E1) no_no)))
end
end Rz
end Q19
section Q20
open PySem PySem.W PySem.Calls PyProof.Rows
namespace Rz
set_option linter.unusedVariables false
set_option linter.unusedSimpArgs false
set_option maxRecDepth 100000

/-! objects of the text's own classes -/
structure ClsOK (X : Cx) (G : Gl) (K : Frag) : Prop where
  inn : K.In X.h₀
  notT : ∀ a o, K.lookup a = some o → a ∉ X.TP
  hand : ∀ k, handedIn (X.CV k) = true
  ga : ∀ c n, (G.dat c n = true ∨ (G.m c n).isSome = true) → findIn K (.ref (X.CL c)) "__getattribute__" = some (some (.builtin "object.__getattribute__")) ∧ findIn K (.ref (X.CL c)) "__getattr__" = some none ∧ hasDictIn K (X.CL c) = true ∧
    findIn K (.ref (X.CL c)) "__setattr__" = some (some (.builtin "object.__setattr__")) ∧ plainOver K (X.CL c) = true
  dat : ∀ c n, G.dat c n = true → findIn K (.ref (X.CL c)) (X.NM n) = some none
  m : ∀ c n k, G.m c n = some k → ∃ f, X.CV k = .ref f ∧ findIn K (.ref (X.CL c)) (X.NM n) = some (some (.ref f)) ∧ typeIn K (.ref f) = some (.type "function") ∧ specialIn K (.ref f) "__get__" = some (some (.builtin "function.__get__")) ∧
    takesIn K (.ref f) = some false ∧ copiedNames.contains (X.NM n) = false
  ca : ∀ k n v, G.a k n = some v → ∃ C mc c, X.CV k = .ref C ∧ readsIn K C mc = true ∧ findCls K (.ref C) mc (X.NM n) = some (.val c) ∧ handedIn c = true ∧ ∀ h ρ, VR X h ρ v c

section
variable {X : Cx} {G : Gl} {C : Call} {d n : Nat} {md : Md} {A : Around} {ρ : List Addr} {H : MH} {s : Shared} {env : Env} {fr : Fr} {mg mb : Str → Option Value} {K : Frag}

theorem ClsOK.at' (O : ClsOK X G K) (S : SOK X ρ H s) : K.In s.heap := fun a o e => S.base _ _ (O.inn a o e) (O.notT a o e)
theorem lookIn_of {o : Obj} {es : Array DictEntry} {n : Nat} {name : Str} (hd : o.data = .dict es n) (hk : StrKeys es) : lookIn name o = some (nsFind es name) := by
  unfold lookIn
  rw [hd]
  dsimp only
  have hnf : nsFind es name = (es.toList.find? (·.key.isStr name)).map (·.val) := by unfold nsFind findBy; rw [Array.find?_toList]
  rw [hnf]
  cases hf : es.toList.find? (·.key.isStr name) with
  | some e => rfl
  | none =>
    have : es.toList.any (·.refKey) = false := by
      rw [List.any_eq_false]; intro e he; obtain ⟨n, t, h⟩ := hk e (Array.mem_toList_iff.mp he); simp [DictEntry.refKey, h]
    rw [this]; rfl
theorem VR.handed (hh : ∀ k, handedIn (X.CV k) = true) {h : Heap} {v : V} {c : Value} (r : VR X h ρ v c) : handedIn c = true := by
  cases v
  · cases (show c = _ from r); rfl
  · cases (show c = _ from r); rfl
  · obtain ⟨_, rfl⟩ := r; rfl
  · obtain ⟨_, rfl⟩ := r; rfl
  · obtain ⟨_, _, rfl, _⟩ := r; rfl
  · obtain ⟨_, _, rfl⟩ := r; rfl
  · cases (show c = _ from r); exact hh _
  · obtain ⟨_, _, _, _, rfl, _⟩ := r; rfl
  · obtain ⟨_, _, rfl, _⟩ := r; rfl
  · obtain ⟨_, _, rfl, _⟩ := r; rfl
/-- an object and its dict -/
structure InstR (X : Cx) (ρ : List Addr) (h : Heap) (a : Addr) (c : Nat) (kv : List (Nat × V)) (dd : Nat) (dx : Addr) (o : Obj) (es : Array DictEntry) (k : Nat) : Prop where
  pd : ρ[dd]? = some dx
  ga : h.get? a = some (instObj (X.CL c) dx)
  gd : h.get? dx = some o
  dt : o.data = .dict es k
  sk : StrKeys es
  sz : es.size ≤ kv.length
  get : ∀ x v, lk kv x = some v → ∃ c, nsFind es (X.NM x) = some c ∧ VR X h ρ v c
  no : ∀ x, x < 400 → lk kv x = none → nsFind es (X.NM x) = none
theorem InstR.at' {h : Heap} {a c kv dd dx o es k} (I : InstR X ρ h a c kv dd dx o es k) : InstAt h a (instObj (X.CL c) dx) (X.CL c) (some o) := ⟨I.ga, rfl, rfl, I.gd⟩
theorem inst_at (S : SOK X ρ H s) {i c dd : Nat} {kv : List (Nat × V)} {a : Addr} (e1 : H[i]? = some (.inst c dd)) (e2 : H[dd]? = some (.dict kv)) (ha : ρ[i]? = some a) :
    ∃ dx o es k, InstR X ρ s.heap a c kv dd dx o es k := by
  obtain ⟨dx, h1, h2⟩ := S.obj _ _ a e1 ha
  obtain ⟨o, es, k, g, hd, h3, h4, h5, h6⟩ := S.obj _ _ dx e2 h1
  exact ⟨dx, o, es, k, h1, h2, g, hd, h3, h4, h5, h6⟩
@[elab_as_elim] theorem ref_getV {α : Type} {i n : Nat} {co : Value} {dat : V → α} {mth : Nat → α} {r0 : α} {P : Value → Prop} (e : getV G i n H dat mth = some r0) (S : SOK X ρ H s) (r : VR X s.heap ρ (.ref i) co)
    (kd : ∀ a c kv dd dx o es k w cv, ρ[i]? = some a → InstR X ρ s.heap a c kv dd dx o es k → G.dat c n = true → nsFind es (X.NM n) = some cv → VR X s.heap ρ w cv → dat w = r0 → P (.ref a))
    (km : ∀ a c kv dd dx o es k kk, ρ[i]? = some a → InstR X ρ s.heap a c kv dd dx o es k → nsFind es (X.NM n) = none → G.m c n = some kk → mth kk = r0 → P (.ref a)) : P co := by
  obtain ⟨a, ha, rfl⟩ := r
  obtain ⟨c, dd, kv, ei, ek, h⟩ := getV_some e
  obtain ⟨dx, o, es, k, I⟩ := inst_at S ei ek ha
  rcases h with ⟨w, ew, hdat, eq⟩ | ⟨kk, ew, hn, hm, eq⟩
  · obtain ⟨cv, q1, q2⟩ := I.get _ _ ew
    exact kd a c kv dd dx o es k w cv ha I hdat q1 q2 eq
  · exact km a c kv dd dx o es k kk ha I (I.no n (Nat.lt_succ_of_le (Nat.le_of_ble_eq_true hn)) ew) hm eq
theorem attr_ok (O : ClsOK X G K) {vo v : V} {n : Nat} {co : Value} (e : attV G vo n H = some v) (S : SOK X ρ H s) (r : VR X s.heap ρ vo co) : wpAny (Mx X) A (getAttr co (X.NM n) true) (EP X ρ s.heap v H) No s := by
  have X' := O.at' S
  cases vo <;> first | exact no_some e | skip
  · refine ref_getV (e : getV G _ n H _ _ = some v) S r (fun a c kv dd dx o es k w cv ha I hdat q1 q2 eq => ?_) fun a c kv dd dx o es k kk ha I q1 hm eq => ?_
    · have g := O.ga c n (.inl hdat)
      exact get_value X' I.at' g.1 (findObj_own g.2.2.1 (O.dat c n hdat) rfl (by rw [lookIn_of I.dt I.sk, q1])) (q2.handed O.hand) (EP.tok S (eq ▸ q2) _)
    · obtain ⟨f, m1, m2, m3, m4, m5, m6⟩ := O.m c n kk hm
      have g := O.ga c n (.inr (by rw [hm]; rfl))
      refine get_bind X' I.at' g.1 (findObj_fn g.2.2.1 m2 m4 m5 m6 (by rw [lookIn_of I.dt I.sk, q1])) g.2.1 (wpAny_call (fn_get (s := { s with toks := s.toks + 1 }) X' m3 (handed_on rfl ?_)))
      refine EP.grow (s := { s with toks := s.toks + 1 }) (s' := { s with heap := s.heap.push (methodObj (.ref f) (.ref a)), toks := s.toks + 1 }) (S.tok _) (keep_push _ _) rfl rfl ?_
      rw [← eq]
      exact Exists.intro _ ⟨a, rfl, by rw [m1]; exact Heap.get?_push_size _ rfl, ha⟩
  · cases (show _ = _ from r)
    obtain ⟨C', mc, c, q1, q2, q3, q4, q5⟩ := O.ca _ _ _ e
    rw [q1]
    exact cls_value X' q2 q3 q4 (EP.tok S (q5 _ _) _)
theorem calleeO_val {i n : Nat} {o : AO} {f : V} {pre : List V} (e : calleeO G i n H o = some (.val f pre)) : getV G i n H (fun v => Callee.val v []) (fun k => .val (.con k) [.ref i]) = some (.val f pre) := by
  cases o <;> first | exact no_some e | exact e | skip
  exact nomatch (show Callee.bi _ = .val f pre from Option.some.inj e)
theorem mth_get (O : ClsOK X G K) {vo f : V} {pre : List V} {n : Nat} {co : Value} {pl : Sem Bool} (e : calleeV G vo n H = some (.val f pre)) (S : SOK X ρ H s) (r : VR X s.heap ρ vo co) :
    wpAny (Mx X) A (getMethod co (X.NM n) pl) (fun r s' => ∃ ρ', Ext X ρ s.heap ρ' s'.heap ∧ SOK X ρ' H s' ∧ VR X s'.heap ρ' f r.1 ∧ VRs X s'.heap ρ' pre r.2) No s := by
  have X' := O.at' S
  cases vo <;> first | exact no_some e | skip
  · exact nomatch (show Callee.bi _ = .val f pre from Option.some.inj e)
  · exact nomatch (show Callee.bi _ = .val f pre from Option.some.inj e)
  · refine onL_e e fun o eo e1 => ref_getV (calleeO_val e1) S r (fun a c kv dd dx o es k w cv ha I hdat q1 q2 eq => ?_) fun a c kv dd dx o es k kk ha I q1 hm eq => ?_
    · cases eq
      have g := O.ga c n (.inl hdat)
      exact method_usual X' I.at' g.1 g.2.1 (O.dat c n hdat) rfl (get_value X' I.at' g.1 (findObj_own g.2.2.1 (O.dat c n hdat) rfl (by rw [lookIn_of I.dt I.sk, q1])) (q2.handed O.hand) ⟨ρ, Ext.refl, S.tok _, q2, rfl⟩)
    · cases eq
      obtain ⟨f, m1, m2, m3, m4, m5, m6⟩ := O.m c n kk hm
      have g := O.ga c n (.inr (by rw [hm]; rfl))
      exact method_fn X' I.at' g.1 g.2.1 m2 m3 (by unfold shadowIn; dsimp only; rw [lookIn_of I.dt I.sk, q1]; rfl) ⟨ρ, Ext.refl, S, m1.symm, VRs.single (VR.ref ha)⟩

theorem putName_spec {o : Obj} {es : Array DictEntry} {ep : Nat} {name : Str} {hash : Int} {t : PySem.Tok} {v : Value} (hd : o.data = .dict es ep) (hk : StrKeys es) :
    ∃ es' ep', (Obj.putName name hash (.str name t) v o).data = .dict es' ep' ∧ StrKeys es' ∧ (∀ x, nsFind es' x = if x = name then some v else nsFind es x) ∧ es'.size ≤ es.size + 1 ∧ ((nsFind es name).isSome = true → es'.size = es.size) := by
  obtain ⟨c, d, dt, sl⟩ := o
  subst hd
  cases hi : es.findIdx? (·.key.isStr name) with
  | some i =>
    refine ⟨_, ep, by simp only [Obj.putName_eq, Obj.putNameByArray, hi]; rfl, hk.modify _ _, fun x => ?_, by simp, fun _ => by simp⟩
    exact findBy_modify (fun n v => v.isStr n) Value.isStr_inj es name x v i hi
  | none =>
    refine ⟨_, ep + 1, by simp only [Obj.putName_eq, Obj.putNameByArray, hi]; rfl, hk.push _ _ _ _, fun x => ?_, by simp, fun h => ?_⟩
    · exact findBy_push (fun n v => v.isStr n) es name x _ _ v (fun y => by
        show (name == y) = decide (y = name)
        by_cases h : y = name
        · subst h; simp
        · have : ¬ name = y := fun e => h e.symm
          simp [h, this]) hi
    · have : nsFind es name = none := by unfold nsFind; rw [findBy_of_findIdx?, hi]
      rw [this] at h; cases h
structure PutLen (a b : Nat) (hn : Prop) : Prop where
  h1 : a ≤ b
  h2 : hn → b = a + 1
  h3 : b ≤ a + 1
theorem put_len (kv : List (Nat × V)) (n : Nat) (v : V) : PutLen kv.length (put kv n v).length (lk kv n = none) := by
  induction kv with
  | nil => exact ⟨Nat.zero_le _, fun _ => rfl, Nat.le_refl _⟩
  | cons p r ih =>
    obtain ⟨k, w⟩ := p
    rw [lk_cons]
    show PutLen _ (match Nat.beq k n with | true => (k, v) :: r | false => (k, w) :: put r n v).length _
    rw [BT.beq_eq]
    by_cases h : k = n
    · rw [decide_eq_true h, if_pos h]
      exact ⟨Nat.le_refl _, (fun q => nomatch q), Nat.le_succ _⟩
    · rw [decide_eq_false h, if_neg h]
      exact ⟨Nat.succ_le_succ ih.h1, fun q => congrArg (· + 1) (ih.h2 q), Nat.succ_le_succ ih.h3⟩
theorem nsAll_has {es : Array DictEntry} {name : Str} (h : StrKeys es) : (!es.any (·.key.isStr name) && es.any (·.refKey)) = false := by
  have : es.any (·.refKey) = false := by
    rw [Array.any_eq_false']; intro e he; obtain ⟨n, t, h⟩ := h e he; simp [DictEntry.refKey, h]
  rw [this, Bool.and_false]
theorem store_ok (XO : XOK X G mg mb) (O : ClsOK X G K) {v : V} {i n cc dd : Nat} {kv : List (Nat × V)} {a : Addr} {tk : PySem.Tok} {c : Value} (ei : H[i]? = some (.inst cc dd)) (ek : H[dd]? = some (.dict kv)) (q1 : G.dat cc n = true) (hn' : n < 400) (hkv : kv.length ≤ 50) (S : SOK X ρ H s) (ha : ρ[i]? = some a) (rv : VR X s.heap ρ v c) :
    codeAny (Mx X) A (.call (.builtin "object.__setattr__") ⟨[.ref a, .str (X.NM n) tk, c], []⟩) (fun r s' => match r with | .ok (.ret _) => SP X ρ s.heap (H.set dd (.dict (put kv n v))) s' | .ok _ => False | .error e => No e s') s := by
  have X' := O.at' S
  obtain ⟨dx, o, es, k, I⟩ := inst_at S ei ek ha
  have gg := O.ga cc n (.inl q1)
  have ht : takerIn K (X.CL cc) (X.NM n) = some none := by unfold takerIn; rw [O.dat cc n q1]; rfl
  refine osa_open X' I.at' gg.2.2.2.2 ht fun b => ?_
  obtain ⟨cd, hc, hd'⟩ := any_some gg.2.2.1
  refine wpAny_bind (wpAny_pure (wpAny_bind (wpAny_bind (wpAny_loadPart I.ga (wpAny_bind ((looks_clsIn X' hc).here ?_))))))
  rw [hd']
  refine wpAny_pure (a := some dx) (wpAny_bind (wpAny_pure (wpAny_bind ?_)))
  unfold nsSet
  refine wpAny_bind (wpAny_bind (wpAny_askSetting (wpAny_pure (wpAny_bind (wpAny_mkText (wpAny_bind (wpAny_loadPart I.gd ?_)))))))
  rw [I.dt]
  dsimp only
  rw [aRefKeyMayBeTheName_at, nsAll_has I.sk]
  refine wpAny_updatePart I.gd ?_
  have p := putName_spec (name := X.NM n) (hash := PyData.keyHash X.w.params (X.NM n)) (t := s.toks) (v := c) I.dt I.sk
  obtain ⟨es', ep', p1, p2, p3, p4, p5⟩ := p
  have D' : (s.heap.update dx (Obj.putName (X.NM n) (PyData.keyHash X.w.params (X.NM n)) (.str (X.NM n) s.toks) c)).get? dx = some (Obj.putName (X.NM n) (PyData.keyHash X.w.params (X.NM n)) (.str (X.NM n) s.toks) c o) := Heap.get?_update_self _ I.gd (Obj.isFreed_of_dict p1)
  have hz : es'.size ≤ (put kv n v).length := by
    cases ew : lk kv n with
    | some w =>
      rw [p5 (Exists.elim (I.get _ _ ew) fun cv z => by rw [z.1]; rfl)]
      exact Nat.le_trans I.sz (put_len kv n v).h1
    | none => exact Nat.le_trans p4 (by rw [(put_len kv n v).h2 ew]; exact Nat.succ_le_succ I.sz)
  refine wpAny_bind (wpAny_lookBehind D' (by rw [p1]; exact pastItsLine_dict (by have := (put_len kv n v).h3; rw [sizeLine_eq]; (first | lia | omega))) ?_)
  refine wpAny_pure ?_
  have q := S.upd (s' := { s with heap := s.heap.update dx (Obj.putName (X.NM n) (PyData.keyHash X.w.params (X.NM n)) (.str (X.NM n) s.toks) c), toks := s.toks + 1 }) (o' := .dict (put kv n v)) I.pd (keepBut_update s.heap dx _) (S.ne_code XO (List.mem_of_getElem? I.pd)) (fun M => ⟨_, es', ep', D', p1, p2, hz, fun x w q => ?_, fun x hx q => ?_⟩) rfl rfl
  · exact ⟨ρ, q.2, q.1⟩
  · rw [lk_put] at q
    rw [p3]
    by_cases hxn : x = n
    · rw [if_pos hxn] at q
      rw [hxn, if_pos rfl]
      exact some_e q ⟨c, rfl, rv.mono M (List.prefix_refl _)⟩
    · rw [if_neg hxn] at q
      rw [if_neg (fun z => hxn (XO.inj _ _ z))]
      exact Exists.elim (I.get _ _ q) fun cv z => ⟨cv, z.1, z.2.mono M (List.prefix_refl _)⟩
  · rw [lk_put] at q
    rw [p3]
    by_cases hxn : x = n
    · rw [if_pos hxn] at q; exact nomatch q
    · rw [if_neg hxn] at q
      rw [if_neg (fun z => hxn (XO.inj _ _ z))]
      exact I.no x hx q
theorem set_ok (XO : XOK X G mg mb) (O : ClsOK X G K) {vo v : V} {n : Nat} {co c : Value} {H' : MH} (e : setAV G vo n v H = some H') (S : SOK X ρ H s) (r : VR X s.heap ρ vo co) (rv : VR X s.heap ρ v c) :
    wpAny (Mx X) A (setAttr co (X.NM n) c) (fun _ s' => SP X ρ s.heap H' s') No s := by
  have X' := O.at' S
  revert r
  refine onR_e e fun i e r => VR.ref_e r fun a ha => ?_
  obtain ⟨cc, dd, ei, e1⟩ := onInst_some e
  obtain ⟨kv, ek, e2⟩ := onDict_some e1
  have e3 := (iff_some e2).2
  have e4 := (iff_some e3).2
  refine some_e (iff_some e4).2 ?_
  obtain ⟨dx, o, es, k, I⟩ := inst_at S ei ek ha
  exact set_plain X' I.at' (O.ga cc n (.inl (iff_some e2).1)).2.2.2.1 (store_ok (s := { s with toks := s.toks + 1 }) XO O ei ek (iff_some e2).1 (Nat.lt_succ_of_le (Nat.le_of_ble_eq_true (iff_some e3).1)) (Nat.le_of_ble_eq_true (iff_some e4).1) (S.tok _) ha rv)
end
end Rz
end Q20
section Q21
open PySem PySem.W PySem.Calls PyProof.Rows
namespace Rz
set_option linter.unusedVariables false
set_option linter.unusedSimpArgs false
set_option maxRecDepth 100000

/-! iter(call, sentinel) -/
theorem ci_slot_next : Slot "callable_iterator" "__next__" "callable_iterator.__next__" :=
  .of (owner := "callable_iterator") (n := "__next__") (by rw [typeLookup_type, builtinLookup_eq_fast]; kernel_rfl) (by decide +kernel) (by decide +kernel) (by decide +kernel)
    (by first | exact .inl (by decide +kernel) | exact .inr (by decide +kernel)) (by rw [isSubtype_type]; kernel_rfl)
theorem ci_slot_iter : Slot "callable_iterator" "__iter__" "callable_iterator.__iter__" :=
  .of (owner := "callable_iterator") (n := "__iter__") (by rw [typeLookup_type, builtinLookup_eq_fast]; kernel_rfl) (by decide +kernel) (by decide +kernel) (by decide +kernel)
    (by first | exact .inl (by decide +kernel) | exact .inr (by decide +kernel)) (by rw [isSubtype_type]; kernel_rfl)
theorem ci_entry_next : entryFor table "callable_iterator.__next__" = some Builtin.«callable_iterator.__next__» := entryFor_of_tree (by kernel_rfl)
theorem ci_args_next (a : Value) : argsOk "callable_iterator.__next__" ⟨[a], []⟩ := by unfold argsOk; kernel_rfl
theorem ci_args_iter (a : Value) : argsOk "callable_iterator.__iter__" ⟨[a], []⟩ := by unfold argsOk; kernel_rfl
theorem ci_entry_iter : entryFor table "callable_iterator.__iter__" = some Builtin.«dict_keyiterator.__iter__» :=
  entryFor_alias (id' := "dict_keyiterator.__iter__") (by kernel_rfl) (by first | rfl | decide +kernel | (unfold String.splitOn; simp +decide [String.splitOnAux])) (by decide +kernel) (by kernel_rfl)
theorem iter_kind : builtinKind "iter" = none := by decide +kernel
theorem iter_plain : plainId "iter" = true := by decide +kernel
theorem iter_args2 (a b : Value) : argsOk "iter" ⟨[a, b], []⟩ := by unfold argsOk; kernel_rfl
theorem method_call : ∃ id, typeLookup (.type "method") "__call__" = pure (some (.builtin id)) := ⟨"method.__call__", by rw [typeLookup_type, builtinLookup_eq_fast]; kernel_rfl⟩

section
variable {X : Cx} {G : Gl} {C : Call} {d n : Nat} {md : Md} {A : Around} {ρ : List Addr} {H : MH} {s : Shared} {env : Env} {fr : Fr} {mg mb : Str → Option Value} {K : Frag}

theorem itr_ok {vs : List V} {v : V} {H' : MH} {cs : List Value} (e : primV .iter vs H = some (v, H')) (S : SOK X ρ H s) (rs : VRs X s.heap ρ vs cs) : wpAny (Mx X) A (call (.builtin "iter") cs) (EP X ρ s.heap v H') No s := by
  revert rs
  refine twoL_e e fun x y e rs => VRs.two_e rs fun c d rc rd => ?_
  cases x <;> (try (exact no_some e))
  rename_i k i
  revert rd
  refine onS_e e fun z e => nilL_e e fun e rd => VR.str_e rd fun t => pair_e e ?_
  have rc' := rc
  obtain ⟨m, a, rfl, hm, ha⟩ := rc
  refine call_function_entry iter_kind iter_plain PySem.W.kdk_entry_iter (iter_args2 _ _) ?_
  unfold Builtin.«iter»
  refine wpAny_bind (wpAny_of_eq (a := [Value.ref m, Value.str ⟨#[]⟩ t]) rfl ?_)
  obtain ⟨id, hid⟩ := method_call
  refine wpAny_bind (wpAny_specialOf (T := "method") ⟨_, hm, rfl⟩ hid ?_)
  simp only [Option.isNone_some, Bool.false_eq_true, if_false]
  refine wpAny_bind (wpAny_rule ?_)
  refine wpAny_bind (wpAny_newObj_type ?_ (by size_fits))
  refine wpAny_pure ⟨_, rfl, ?_⟩
  have k' : Keep s.heap (s.heap.push { cls := .type "callable_iterator", data := .fields #[.ref m, .str ⟨#[]⟩ t, .bool false] }) := keep_push _ _
  have hO : OR X (s.heap.push { cls := .type "callable_iterator", data := .fields #[.ref m, .str ⟨#[]⟩ t, .bool false] }) (ρ ++ [s.heap.objs.size]) (.cit k i true) s.heap.objs.size :=
    ⟨.ref m, t, Heap.get?_push_size _ rfl, fun _ => rc'.mono (fun b o e _ => k' b o e) (List.prefix_append ..)⟩
  have p := S.alloc (s' := { s with heap := s.heap.push { cls := .type "callable_iterator", data := .fields #[.ref m, .str ⟨#[]⟩ t, .bool false] } }) k' (size_none _) hO rfl rfl
  exact ⟨_, p.2, p.1, VR.ref (by rw [← S.len, List.getElem?_append_right (Nat.le_refl _)]; simp)⟩
theorem cit_iter : CitI X where
  it := by
    intro A ρ H s i k j b a e S ha
    obtain ⟨m, t, g, _⟩ := S.obj _ _ a e ha
    have hT : s.TypeIs (.ref a) "callable_iterator" := ⟨_, g, rfl⟩
    refine wpAny_pyIter_slot hT ci_slot_iter (wpAny_call_entry ci_slot_iter hT ci_entry_iter ?_ (ci_args_iter _))
    show wpAny _ _ (ret (.ref a)) _ _ s
    exact wpAny_pure ⟨_, rfl, "callable_iterator", _, hT, ci_slot_next.lookup, rfl, rfl⟩
theorem dead_ok {i k j : Nat} {a : Addr} (hh : A.handled = none) (e : H[i]? = some (.cit k j false)) (S : SOK X ρ H s) (ha : ρ[i]? = some a) : wpAny (Mx X) A (pyNext (.ref a)) (fun o s' => o = none ∧ SP X ρ s.heap H s') No s := by
  obtain ⟨m, t, g, _⟩ := S.obj _ _ a e ha
  have hT : s.TypeIs (.ref a) "callable_iterator" := ⟨_, g, rfl⟩
  unfold pyNext
  refine wpAny_bind (wpAny_attempt (wpAny_callSpecial?_slot (name := Str.ofString "__next__") hT ci_slot_next (wpAny_call_entry ci_slot_next hT ci_entry_next ?_ (ci_args_next _))))
  unfold Builtin.«callable_iterator.__next__»
  refine wpAny_bind (wpAny_of_eq (a := (Value.ref a, [])) rfl ?_)
  dsimp only
  refine wpAny_bind (wpAny_field g rfl (x := .bool true) rfl ?_)
  rw [if_pos (by decide)]
  refine wpAny_bind (wpAny_rule ?_)
  refine wpAny_bind ?_
  show wpAny _ _ (newExc (.type "StopIteration") [] >>= _) _ _ _
  refine wpAny_bind ?_
  simp only [newExc, newTuple]
  refine wpAny_bind (wpAny_newObj_type ?_ (by size_fits))
  refine wpAny_bind (m := firstArgMember _ _) (wpAny_of_eq (a := Value.none) (by first | rfl | (simp only [firstArgMember]; rfl)) ?_)
  refine wpAny_newObj_type ?_ (by size_fits)
  unfold raiseNew
  refine wpAny_bind (wpAny_handled ?_)
  first | rw [show A.in1.handled = none from hh] | rw [hh]
  refine wpAny_bind (wpAny_pure (wpAny_throw ?_))
  refine wpAny_bind (wpAny_isInstance (T := "StopIteration") (b := true) ⟨_, Heap.get?_push_size _ rfl, rfl⟩ isSubtype_stop ?_)
  refine wpAny_pure ⟨rfl, ρ, ?_, ?_⟩
  · exact SOK.ext_keep fun b o e => Heap.get?_push_of_some _ (Heap.get?_push_of_some _ e)
  · exact S.grow (fun b o e => Heap.get?_push_of_some _ (Heap.get?_push_of_some _ e)) rfl rfl
theorem borrowed_eq (f : Value) : callBorrowed f [] = (call f []).keep [borrowed] := by
  unfold callBorrowed call runValue
  show Sem.call _ _ _ _ _ = Sem.call _ _ _ _ _
  congr 1
  funext r
  rcases r with e | (v | _ | _ | _) <;> rfl
theorem borrows_ok {m : Addr} {f : Addr} {self : Value} {fo : Obj} {fd : FuncData} {Q : Bool → Shared → Prop} {E : Value → Shared → Prop} (hm : s.heap.get? m = some { cls := .type "method", data := .fields #[.ref f, self] }) (hf : s.heap.get? f = some fo) (hd : fo.data = .func fd) (h : Q true s) :
    wpAny (Mx X) A (borrowsExactly (.ref m)) Q E s := by
  unfold borrowsExactly
  refine wpAny_bind (wpAny_load hm ?_)
  dsimp only
  rw [if_pos (by decide)]
  refine wpAny_bind (wpAny_load hf ?_)
  rw [hd]
  exact wpAny_pure h
theorem live_ok (CO : CallOK X C d) (XO : XOK X G mg mb) (hfn : ∀ k i H r, C (.bm k i) [] H = some r → ∃ f fo fd, X.CV k = .ref f ∧ X.h₀.get? f = some fo ∧ fo.data = .func fd ∧ f ∉ X.TP)
    {i k j j' : Nat} {cs : List Nat} {a : Addr} {H1 : MH} (e : H[i]? = some (.cit k j true)) (ec : C (.bm k j) [] H = some (.str cs, H1)) (e1 : H1[i]? = some (.cit k j' true)) (R : Room A (d + 1)) (S : SOK X ρ H s) (ha : ρ[i]? = some a) :
    wpAny (Mx X) A (pyNext (.ref a)) (fun o s' => ∃ ρ', Ext X ρ s.heap ρ' s'.heap ∧ (match cs with
      | [] => o = none ∧ SOK X ρ' (H1.set i (.cit k j false)) s'
      | _ :: _ => ∃ cv, o = some cv ∧ VR X s'.heap ρ' (.str cs) cv ∧ SOK X ρ' H1 s')) No s := by
  obtain ⟨m, t, g, hbm⟩ := S.obj _ _ a e ha
  have hbm := hbm rfl
  have hbm' := hbm
  obtain ⟨m', a', rfl, hm, ha'⟩ := hbm'
  obtain ⟨f, fo, fd, hf1, hf2, hf3, hf4⟩ := hfn _ _ _ _ ec
  have R' : Room A.in1 d := ⟨R.handled, by have := R.depth; show A.depth + d < 990; (first | lia | omega), by have := R.units; show A.units + 1 + 8 * d < 9000; (first | lia | omega)⟩
  have hT : s.TypeIs (.ref a) "callable_iterator" := ⟨_, g, rfl⟩
  have hfs : ∀ {ρ2 : List Addr} {H2 : MH} {s2 : Shared}, SOK X ρ2 H2 s2 → s2.heap.get? f = some fo := fun S2 => S2.base _ _ hf2 hf4
  unfold pyNext
  refine wpAny_bind (wpAny_attempt (wpAny_callSpecial?_slot (name := Str.ofString "__next__") hT ci_slot_next (wpAny_call_entry ci_slot_next hT ci_entry_next ?_ (ci_args_next _))))
  unfold Builtin.«callable_iterator.__next__»
  refine wpAny_bind (wpAny_of_eq (a := (Value.ref a, [])) rfl ?_)
  dsimp only
  refine wpAny_bind (wpAny_field g rfl (x := .bool false) rfl ?_)
  rw [if_neg (by decide)]
  refine wpAny_bind (wpAny_field g rfl (x := .ref m') rfl ?_)
  refine wpAny_bind (wpAny_attempt ?_)
  unfold callOutOfASlot
  refine wpAny_bind (borrows_ok (f := f) (by rw [← hf1]; exact hm) (hfs S) hf3 ?_)
  rw [if_pos rfl, borrowed_eq]
  refine wpAny_keep (wno (wpAny_mono (CO.run ec R' S hbm (rfl)) (fun r s1 h1 => ?_) no_no))
  refine Exists.elim h1 fun ρ1 z => ?_
  have E1 := z.1
  have S1 := z.2.1
  refine VR.str_e z.2.2 fun u => ?_
  have ha1 : ρ1[i]? = some a := pre_get E1.pre ha
  refine Exists.elim (S1.obj _ _ a e1 ha1) fun m1 z => Exists.elim z fun t1 z => ?_
  have g1 := z.1
  have hbm1 := z.2
  dsimp only
  refine wpAny_bind (wpAny_field g1 rfl (x := .bool false) rfl ?_)
  rw [if_neg (by decide)]
  refine wpAny_bind (wpAny_field g1 rfl (x := .str ⟨#[]⟩ t1) rfl ?_)
  refine wpAny_bind (wpAny_holding (wpAny_eqBool_str ?_))
  cases cs with
  | cons c0 cs =>
    rw [show decide ((⟨#[]⟩ : Str) = ⟨(c0 :: cs).toArray⟩) = false from decide_eq_false fun q => by simp at q]
    rw [if_pos (by decide)]
    refine wpAny_bind (wpAny_pure (wpAny_pure ⟨_, rfl, ?_⟩))
    exact wpAny_pure ⟨ρ1, E1, _, rfl, VR.str, S1⟩
  | nil =>
    rw [show decide ((⟨#[]⟩ : Str) = ⟨([] : List Nat).toArray⟩) = true from decide_eq_true rfl]
    rw [if_neg (by decide)]
    refine wpAny_bind (wpAny_rule ?_)
    obtain ⟨m1', a1', rfl, hm1, _⟩ := hbm1 rfl
    refine wpAny_bind ?_
    refine wpAny_bind (wpAny_field g1 rfl (x := .ref m1') rfl ?_)
    refine wpAny_bind (m := slotLetsGo _ _ _) ?_
    unfold slotLetsGo
    refine wpAny_bind (borrows_ok (f := f) (by rw [← hf1]; exact hm1) (hfs S1) hf3 ?_)
    rw [if_pos rfl]
    refine wpAny_pure ?_
    refine wpAny_bind (wpAny_setField_rec g1 (Nat.zero_lt_succ 2) fun h2 g2 b2 => ?_)
    refine wpAny_bind (wpAny_setField_rec g2 (Nat.succ_lt_succ (Nat.zero_lt_succ 1)) fun h3 g3 b3 => ?_)
    refine wpAny_setField_rec g3 (Nat.succ_lt_succ (Nat.succ_lt_succ (Nat.zero_lt_succ 0))) fun h4 g4 b4 => ?_
    show wpAny _ _ (newExc (.type "StopIteration") [] >>= _) _ _ _
    refine wpAny_bind ?_
    simp only [newExc, newTuple]
    refine wpAny_bind (wpAny_newObj_type ?_ (by size_fits))
    refine wpAny_bind (m := firstArgMember _ _) (wpAny_of_eq (a := Value.none) (by first | rfl | (simp only [firstArgMember]; rfl)) ?_)
    refine wpAny_newObj_type ?_ (by size_fits)
    unfold raiseNew
    refine wpAny_bind (wpAny_handled ?_)
    rw [show A.in1.handled = none from R.handled]
    refine wpAny_bind (wpAny_pure (wpAny_throw ?_))
    refine wpAny_bind (wpAny_isInstance (T := "StopIteration") (b := true) ⟨_, Heap.get?_push_size _ rfl, rfl⟩ isSubtype_stop ?_)
    have kb : KeepBut a s1.heap h4 := fun b o n e => b4.extBut b o n (b3.extBut b o n (b2.extBut b o n e))
    have p4 := S1.upd (s' := { s1 with heap := h4 }) (o' := .cit k j false) ha1 kb (S1.ne_code XO (List.mem_of_getElem? ha1)) (fun _ => ⟨.none, t1, g4, fun q => nomatch q⟩) rfl rfl
    refine wpAny_pure ⟨ρ1, (E1.trans p4.2).trans ?_, rfl, ?_⟩
    · exact SOK.ext_keep fun b o e => Heap.get?_push_of_some _ (Heap.get?_push_of_some _ e)
    · exact p4.1.grow (fun b o e => Heap.get?_push_of_some _ (Heap.get?_push_of_some _ e)) rfl rfl
theorem cit_ok (CO : CallOK X C d) (XO : XOK X G mg mb) (hfn : ∀ k i H r, C (.bm k i) [] H = some r → ∃ f fo fd, X.CV k = .ref f ∧ X.h₀.get? f = some fo ∧ fo.data = .func fd ∧ f ∉ X.TP) : CitOK X C (d + 1) where
  live := fun e ec e1 R S ha => live_ok CO XO hfn e ec e1 R S ha
  dead := fun e R S ha => dead_ok R.handled e S ha
end
end Rz
end Q21
section Q22
open PySem PySem.W PySem.Calls PyProof.Rows
namespace Rz
set_option linter.unusedVariables false
set_option linter.unusedSimpArgs false
set_option maxRecDepth 100000

/-! all calls -/
structure Defs where
  fn : Nat → Option MDef
  clo : Nat → Option MDef
  cls : Nat → Option (Nat × Nat)
noncomputable def onNone {α : Type} (v : V) (x : Option α) : Option α := V.casesOn (motive_1 := fun _ => Option α) v x (fun z => none) (fun z => none) (fun z => none) (fun z => none) (fun z => none) (fun z => none) (fun x y z => none) (fun y z => none) (fun y z => none)
noncomputable def clsK (G : Gl) (Df : Defs) (C : Call) (n : Nat) (c init : Nat) (args : List V) (H : MH) : Option (V × MH) := onL (Df.fn init) fun D => (runDef G C n D [] (.ref (H.length + 1) :: args) (H ++ [.dict [], .inst c H.length])).bind fun p => onNone p.1 (some (.ref (H.length + 1), p.2))
noncomputable def runK (G : Gl) (Df : Defs) (C : Call) (n : Nat) : Call := fun f args H => V.casesOn (motive_1 := fun _ => Option (V × MH)) f none (fun z => none) (fun z => none) (fun z => none) (fun z => none) (fun z => none)
  (fun k => onSm (Df.fn k) (onL (Df.cls k) fun q => clsK G Df C n q.1 q.2 args H) fun D => runDef G C n D [] args H) (fun x y z => none)
  (fun k cs => onL (Df.clo k) fun D => runDef G C n D cs args H) (fun k i => onL (Df.fn k) fun D => runDef G C n D [] (.ref i :: args) H)
noncomputable def mkC (G : Gl) (Df : Defs) (n : Nat) (d : Nat) : Call := Nat.rec (fun _ _ _ => none) (fun _ ih => runK G Df ih n) d
/-- what a call that is run is -/
theorem runK_e {G : Gl} {Df : Defs} {C : Call} {n : Nat} {f : V} {args : List V} {H : MH} {r : V × MH} {P : V → Prop} (e : runK G Df C n f args H = some r) (k1 : ∀ k D, Df.fn k = some D → runDef G C n D [] args H = some r → P (.con k))
    (k2 : ∀ k c init D p, Df.cls k = some (c, init) → Df.fn init = some D → runDef G C n D [] (.ref (H.length + 1) :: args) (H ++ [.dict [], .inst c H.length]) = some (.none, p) → r = (.ref (H.length + 1), p) → P (.con k))
    (k3 : ∀ k cs D, Df.clo k = some D → runDef G C n D cs args H = some r → P (.clo k cs)) (k4 : ∀ k i D, Df.fn k = some D → runDef G C n D [] (.ref i :: args) H = some r → P (.bm k i)) : P f := by
  cases f <;> first | exact no_some e | skip
  · rename_i k
    cases hD : Df.fn k with
    | some D => exact k1 k D hD (by rw [← e]; show _ = onSm (Df.fn k) _ _; rw [hD]; rfl)
    | none =>
      have e : (onL (Df.cls k) fun q => clsK G Df C n q.1 q.2 args H) = some r := by rw [← e]; show _ = onSm (Df.fn k) _ _; rw [hD]; rfl
      refine onL_e e fun q hq e => onL_e e fun D hD e => bnd_e e fun p e1 e => ?_
      obtain ⟨v, H2⟩ := p
      cases v <;> first | exact no_some e | exact k2 k q.1 q.2 D H2 hq hD e1 (Option.some.inj e).symm
  · exact onL_e e fun D hD e => k3 _ _ D hD e
  · exact onL_e e fun D hD e => k4 _ _ D hD e

structure FunOK (X : Cx) (k : Nat) (D : MDef) (md : Md) : Prop where
  ex : ∃ a o fd, X.CV k = .ref a ∧ X.h₀.get? a = some o ∧ a ∉ X.TP ∧ o.data = .func fd ∧ mDef X.NM md D fd.params fd.body fd.scope = true ∧ fd.globals = mainGlobals ∧ fd.builtins = builtinsNs ∧ fd.defaults = .none ∧ D.fv = [] ∧
    (∃ c, fd.code = .ref c ∧ CodeGood X.h₀ c fd.qualname ∧ c ∉ X.TP) ∧
    (∀ k nm pos args body sc, md k nm pos args body sc = true → X.mdd k args body sc = true ∧ freesIn X.NM sc.names (X.fv k) = true ∧ ∃ t ∈ X.tabs, fd.code = .ref t.c ∧ t.line = pos.line ∧ t.col = pos.col ∧ t.q = (fd.qualname ++ ".<locals>.") ++ nm)
structure DefsOK (X : Cx) (K : Frag) (Df : Defs) : Prop where
  fn : ∀ k D, Df.fn k = some D → ∃ md, FunOK X k D md
  clo : ∀ k D, Df.clo k = some D → (∀ args body sc, X.mdd k args body sc = mDef X.NM (fun _ _ _ _ _ _ => false) D args body sc) ∧ X.fv k = D.fv
  cls : ∀ k c init, Df.cls k = some (c, init) → X.CV k = .ref (X.CL c) ∧ makesIn K (X.CL c) = true ∧ ∃ fI, X.CV init = .ref fI ∧ findIn K (.ref (X.CL c)) "__init__" = some (some (.ref fI)) ∧ typeIn K (.ref fI) = some (.type "function")

section
variable {X : Cx} {G : Gl} {C : Call} {d n : Nat} {md : Md} {A : Around} {ρ : List Addr} {H : MH} {s : Shared} {env : Env} {fr : Fr} {mg mb : Str → Option Value} {K : Frag} {Df : Defs}

theorem CodeGood.up {c : Addr} {q : Str} (S : SOK X ρ H s) (g : CodeGood X.h₀ c q) (hc : c ∉ X.TP) : CodeGood s.heap c q := by
  obtain ⟨oc, vs, t, h1, h2⟩ := g
  exact ⟨oc, vs, t, S.base _ _ h1 hc, h2⟩
noncomputable abbrev CP (X : Cx) (ρ : List Addr) (h : Heap) (v : V) (H' : MH) (r : Result) (s' : Shared) : Prop := match r with | .ok (.ret c) => EP X ρ h v H' c s' | .ok _ => False | .error e => No e s'
theorem fn_code (AK : AllOK X G C d mg mb) {k : Nat} {D : MDef} (F : FunOK X k D md) {vs : List V} {v : V} {H' : MH} {vals : List Value} (e : runDef G C n D [] vs H = some (v, H')) (R : Room A (d + 1)) (S : SOK X ρ H s) (rs : VRs X s.heap ρ vs vals) :
    codeAny (Mx X) A (.call (X.CV k) ⟨vals, []⟩) (CP X ρ s.heap v H') s := by
  obtain ⟨a, o, fd, h1, h2, h3, h4, h5, h6, h7, h8, h9, ⟨c, h10, h11, h12⟩, h13⟩ := F.ex
  rw [h1]
  exact def_code AK e R S (S.base _ _ h2 h3) h4 h5 h6 h7 h8 ⟨c, h10, h11.up S h12⟩ ⟨by rw [h9], fun j x c e => by rw [h9] at e; exact no_some e⟩ h13 rs
theorem clo_code (AK : AllOK X G C d mg mb) (DO : DefsOK X K Df) {k : Nat} {D : MDef} (hD : Df.clo k = some D) {cs : List Nat} {vs : List V} {v : V} {H' : MH} {vals : List Value} {c : Value} (e : runDef G C n D cs vs H = some (v, H')) (R : Room A (d + 1)) (S : SOK X ρ H s)
    (rc : VR X s.heap ρ (.clo k cs) c) (rs : VRs X s.heap ρ vs vals) : codeAny (Mx X) A (.call c ⟨vals, []⟩) (CP X ρ s.heap v H') s := by
  obtain ⟨h1, h2⟩ := DO.clo k D hD
  obtain ⟨a, cl, rfl, FA, hcl⟩ := rc
  obtain ⟨o, fd, g, hc, hd, hm, hg, hb, hdef, hkd, hclo, c', hc1, hc2⟩ := FA.ex
  rw [h1] at hm
  rw [h2] at hcl
  exact def_code AK e R S g hd hm hg hb hdef ⟨c', hc1, hc2⟩ (by rw [hclo]; exact hcl) (fun k nm pos args body sc q => nomatch q) rs
/-- an object is made -/
theorem cls_code (AK : AllOK X G C d mg mb) (DO : DefsOK X K Df) (KO : ClsOK X G K) {k c init : Nat} {D : MDef} (hc : Df.cls k = some (c, init)) (F : FunOK X init D md) {vs : List V} {H2 : MH} {vals : List Value}
    (e : runDef G C n D [] (.ref (H.length + 1) :: vs) (H ++ [.dict [], .inst c H.length]) = some (.none, H2)) (R : Room A (d + 2)) (S : SOK X ρ H s) (rs : VRs X s.heap ρ vs vals) :
    codeAny (Mx X) A (.call (X.CV k) ⟨vals, []⟩) (CP X ρ s.heap (.ref (H.length + 1)) H2) s := by
  obtain ⟨h1, h2, fI, h3, h4, h5⟩ := DO.cls k c init hc
  rw [h1]
  have XS := KO.at' S
  obtain ⟨hh, g, dr, t, os⟩ := s
  refine make_core (makes_of XS h2) (looks_findIn XS h4) (fun self => bind_fn XS self h5) (.inl rfl) ?_
  have hR : Room (A.under (.builtin "type.__call__" ⟨.ref (X.CL c) :: vals, []⟩)) (d + 1) := by
    refine ⟨R.handled, ?_, ?_⟩
    · have := R.depth
      show A.depth + 1 + (d + 1) < 990
      (first | lia | omega)
    · have := R.units
      show A.units + 1 + 8 * (d + 1) < 9000
      (first | lia | omega)
  obtain ⟨S1, E1⟩ := S.alloc (s' := (⟨hh.push emptyDict, g, dr, t, os⟩ : Shared)) (o := .dict []) (keep_push _ _) (size_none _) ⟨_, #[], 0, Heap.get?_push_size _ rfl, rfl, (fun e he => by simp at he), Nat.le_refl _, (fun x v q => no_some q), fun x _ _ => rfl⟩ rfl rfl
  have hz : (hh.push emptyDict).objs.size = hh.objs.size + 1 := Heap.size_push ..
  obtain ⟨S2, E2⟩ := S1.alloc (s' := (⟨(hh.push emptyDict).push (instObj (X.CL c) hh.objs.size), g, dr, t, os⟩ : Shared)) (o := .inst c H.length) (keep_push _ _) (size_none _)
    ⟨hh.objs.size, by rw [List.getElem?_append_left (by simp [S.len]), ← S.len, List.getElem?_append_right (Nat.le_refl _)]; simp, Heap.get?_push_size _ rfl⟩ rfl rfl
  dsimp only at S1 E1 S2 E2
  rw [hz] at S2 E2
  have hl : (ρ ++ [hh.objs.size] ++ [hh.objs.size + 1])[H.length + 1]? = some (hh.objs.size + 1) := by
    rw [List.getElem?_append_right (by simp [S.len])]; simp [S.len]
  rw [show H ++ [AO.dict [], AO.inst c H.length] = H ++ [.dict []] ++ [.inst c H.length] by simp] at e
  have E12 := E1.trans E2
  have call := fn_code AK F (vals := .ref (hh.objs.size + 1) :: vals) e hR S2 (VRs.cons (VR.ref hl) (rs.mono (S.mono E12) E12.pre))
  rw [h3] at call
  refine codeAny_mono call fun r s' z => ?_
  rcases r with e | (v | _ | _ | _) <;> first | exact z.elim | skip
  exact Exists.elim z fun ρ3 z => ⟨z.2.2, ρ3, E12.trans z.1, z.2.1, VR.ref (pre_get z.1.pre hl)⟩
theorem bm_code (AK : AllOK X G C d mg mb) {k i : Nat} {D : MDef} (F : FunOK X k D md) {vs : List V} {v : V} {H' : MH} {vals : List Value} {c : Value} (e : runDef G C n D [] (.ref i :: vs) H = some (v, H')) (R : Room A (d + 2)) (S : SOK X ρ H s)
    (rc : VR X s.heap ρ (.bm k i) c) (rs : VRs X s.heap ρ vs vals) : codeAny (Mx X) A (.call c ⟨vals, []⟩) (CP X ρ s.heap v H') s := by
  obtain ⟨m, a, rfl, g, ha⟩ := rc
  have hR : Room A (d + 1) := ⟨R.handled, by have := R.depth; (first | lia | omega), by have := R.units; (first | lia | omega)⟩
  refine codeAny_of_tree ?_
  show wpAny _ _ (callAny (.ref m) ⟨vals, []⟩) _ _ s
  unfold callAny
  refine wpAny_bind (wpAny_load g ?_)
  dsimp only
  rw [if_pos (by decide)]
  have call := fn_code AK F (vals := .ref a :: vals) e hR S (VRs.cons (VR.ref ha) rs)
  obtain ⟨f, _, _, hf, _⟩ := F.ex
  rw [hf] at call ⊢
  exact wpAny_pure (a := Fin.again (.call (.ref f) ⟨.ref a :: vals, []⟩)) (And.intro rfl call)
/-- every call that the mini world runs is run -/
theorem runK_ok (AK : AllOK X G C d mg mb) (DO : DefsOK X K Df) (KO : ClsOK X G K) : CallOK X (runK G Df C n) (d + 2) where
  run := by
    intro A ρ H s f vs v H' cf cs e R S rf rs
    have hR : Room A (d + 1) := ⟨R.handled, by have := R.depth; (first | lia | omega), by have := R.units; (first | lia | omega)⟩
    refine wpAny_call (codeAny_mono (R := CP X ρ s.heap v H') ?_ fun r s' z => ?_)
    · refine runK_e (P := fun f => VR X s.heap ρ f cf → codeAny (Mx X) A (.call cf ⟨cs, []⟩) (CP X ρ s.heap v H') s) e (fun k D hD e rf => ?_) (fun k c init D p hc hD e eq rf => ?_) (fun k cs' D hD e rf => clo_code AK DO hD e hR S rf rs) (fun k i D hD e rf => ?_) rf
      · cases (show cf = _ from rf)
        exact Exists.elim (DO.fn k D hD) fun md F => fn_code AK F e hR S rs
      · cases (show cf = _ from rf)
        cases eq
        exact Exists.elim (DO.fn init D hD) fun md F => cls_code AK DO KO hc F e R S rs
      · exact Exists.elim (DO.fn k D hD) fun md F => bm_code AK F e R S rf rs
    · rcases r with e | (v | _ | _ | _) <;> first | exact z.elim | exact z
  keep := by
    intro A ρ H s f vs r cf e R S rf
    refine runK_e (P := fun f => VR X s.heap ρ f cf → wpAny (Mx X) A (keeperOf cf) (fun _ s' => Tok s s') No s) e (fun k D hD e rf => ?_) (fun k c init D p hc hD e eq rf => ?_) (fun k cs' D hD e rf => ?_) (fun k i D hD e rf => ?_) rf
    · cases (show cf = _ from rf)
      obtain ⟨md, F⟩ := DO.fn k D hD
      obtain ⟨a, o, fd, h1, h2, h3, h4, _⟩ := F.ex
      rw [h1]
      unfold keeperOf
      refine wpAny_bind (wpAny_load (S.base _ _ h2 h3) ?_)
      rw [h4]
      exact wpAny_pure (Tok.refl s)
    · cases (show cf = _ from rf)
      have h := DO.cls k c init hc
      rw [h.1]
      obtain ⟨⟨oc, od, cd, sl, hC, _⟩, _, _, _, _, call, _⟩ := makes_of (M := Mx X) (KO.at' S) h.2.1
      unfold keeperOf
      refine wpAny_bind (wpAny_load hC ?_)
      dsimp only
      refine wpAny_bind (call.here ?_)
      exact wpAny_pure (Tok.refl s)
    · obtain ⟨a, cl, rfl, FA, hcl⟩ := rf
      obtain ⟨o, fd, g, hc, hd, _⟩ := FA.ex
      unfold keeperOf
      refine wpAny_bind (wpAny_load g ?_)
      rw [hd]
      exact wpAny_pure (Tok.refl s)
    · obtain ⟨md, F⟩ := DO.fn k D hD
      obtain ⟨f, o, fd, h1, h2, h3, h4, _⟩ := F.ex
      obtain ⟨m, a, rfl, g, ha⟩ := rf
      unfold keeperOf
      refine wpAny_bind (wpAny_load g ?_)
      dsimp only
      rw [if_neg (by decide), h1]
      refine wpAny_bind (wpAny_load (S.base _ _ h2 h3) ?_)
      rw [h4]
      exact wpAny_pure (Tok.refl s)
end
end Rz
end Q22
section Q23
open PySem PySem.W PySem.Calls PyProof.Rows
namespace Rz

noncomputable def dClo500 : MDef := ⟨[.loc 47, .loc 48, .loc 49], [], [45, 46, 33], .stmts (.cons (.ife (.cmp .Eq (.bin .Add (.loc 48) (.lit (.int 1))) (.loc 49)) (.cons (.setI (.cel 45) (.loc 48) (.loc 47)) (.cons (.ret (.lit .none)) (.nil))) (.nil)) (.cons (.asg (.loc 50) (.bin .RShift (.bin .Add (.loc 48) (.loc 49)) (.lit (.int 1)))) (.cons (.asg (.loc 52) (.bin .Mult (.bin .Sub (.loc 50) (.loc 48)) (.cel 33))) (.cons (.asg (.loc 51) (.bin .RShift (.loc 47) (.loc 52))) (.cons (.asg (.loc 4) (.bin .BitXor (.loc 47) (.bin .LShift (.loc 51) (.loc 52)))) (.cons (.ex (.call (.cel 46) (.cons (.loc 4) (.cons (.loc 48) (.cons (.loc 50) (.nil)))))) (.cons (.ex (.call (.cel 46) (.cons (.loc 51) (.cons (.loc 50) (.cons (.loc 49) (.nil)))))) (.nil))))))))⟩
noncomputable def dClo501 : MDef := ⟨[.loc 48, .loc 49], [], [53, 46, 33], .stmts (.cons (.ife (.cmp .Eq (.bin .Add (.loc 48) (.lit (.int 1))) (.loc 49)) (.cons (.ret (.idx (.cel 53) (.loc 48))) (.nil)) (.nil)) (.cons (.asg (.loc 50) (.bin .RShift (.bin .Add (.loc 48) (.loc 49)) (.lit (.int 1)))) (.cons (.asg (.loc 52) (.bin .Mult (.bin .Sub (.loc 50) (.loc 48)) (.cel 33))) (.cons (.ret (.bin .Add (.bin .LShift (.call (.cel 46) (.cons (.loc 50) (.cons (.loc 49) (.nil)))) (.loc 52)) (.call (.cel 46) (.cons (.loc 48) (.cons (.loc 50) (.nil)))))) (.nil)))))⟩
noncomputable def dClo502 : MDef := ⟨[.loc 6], [], [98], .expr (.ife (.cmp .NotEq (.cel 98) (.lst (.nil))) (.mth (.cel 98) 2 (.nil)) (.lit (.str [])))⟩
noncomputable def d_div2n1n : MDef := ⟨[.loc 31, .loc 32, .loc 33], [], [], .stmts (.cons (.ife (.cmp .LtE (.bin .Sub (.mth (.loc 31) 8 (.nil)) (.loc 33)) (.glb 11)) (.cons (.ret (.prim .divmod (.cons (.loc 31) (.cons (.loc 32) (.nil))))) (.nil)) (.nil)) (.cons (.asg (.loc 38) (.bin .BitAnd (.loc 33) (.lit (.int 1)))) (.cons (.ife (.val (.loc 38)) (.cons (.aug (.loc 31) .LShift (.lit (.int 1))) (.cons (.aug (.loc 32) .LShift (.lit (.int 1))) (.cons (.aug (.loc 33) .Add (.lit (.int 1))) (.nil)))) (.nil)) (.cons (.asg (.loc 36) (.bin .RShift (.loc 33) (.lit (.int 1)))) (.cons (.asg (.loc 41) (.bin .Sub (.bin .LShift (.lit (.int 1)) (.loc 36)) (.lit (.int 1)))) (.cons (.asgT [.loc 40, .loc 39] (.tup (.cons (.bin .RShift (.loc 32) (.loc 36)) (.cons (.bin .BitAnd (.loc 32) (.loc 41)) (.nil))))) (.cons (.asgT [.loc 35, .loc 34] (.call (.glb 13) (.cons (.bin .RShift (.loc 31) (.loc 33)) (.cons (.bin .BitAnd (.bin .RShift (.loc 31) (.loc 36)) (.loc 41)) (.cons (.loc 32) (.cons (.loc 40) (.cons (.loc 39) (.cons (.loc 36) (.nil))))))))) (.cons (.asgT [.loc 37, .loc 34] (.call (.glb 13) (.cons (.loc 34) (.cons (.bin .BitAnd (.loc 31) (.loc 41)) (.cons (.loc 32) (.cons (.loc 40) (.cons (.loc 39) (.cons (.loc 36) (.nil))))))))) (.cons (.ife (.val (.loc 38)) (.cons (.aug (.loc 34) .RShift (.lit (.int 1))) (.nil)) (.nil)) (.cons (.ret (.tup (.cons (.bin .BitOr (.bin .LShift (.loc 35) (.loc 36)) (.loc 37)) (.cons (.loc 34) (.nil))))) (.nil)))))))))))⟩
noncomputable def d_div3n2n : MDef := ⟨[.loc 42, .loc 43, .loc 32, .loc 40, .loc 39, .loc 33], [], [], .stmts (.cons (.ife (.cmp .Eq (.bin .RShift (.loc 42) (.loc 33)) (.loc 40)) (.cons (.asgT [.loc 44, .loc 34] (.tup (.cons (.bin .Sub (.bin .LShift (.lit (.int 1)) (.loc 33)) (.lit (.int 1))) (.cons (.bin .Add (.bin .Sub (.loc 42) (.bin .LShift (.loc 40) (.loc 33))) (.loc 40)) (.nil))))) (.nil)) (.cons (.asgT [.loc 44, .loc 34] (.call (.glb 12) (.cons (.loc 42) (.cons (.loc 40) (.cons (.loc 33) (.nil)))))) (.nil))) (.cons (.asg (.loc 34) (.bin .Sub (.bin .BitOr (.bin .LShift (.loc 34) (.loc 33)) (.loc 43)) (.bin .Mult (.loc 44) (.loc 39)))) (.cons (.whl (.cmp .Lt (.loc 34) (.lit (.int 0))) (.cons (.aug (.loc 44) .Sub (.lit (.int 1))) (.cons (.aug (.loc 34) .Add (.loc 32)) (.nil)))) (.cons (.ret (.tup (.cons (.loc 44) (.cons (.loc 34) (.nil))))) (.nil)))))⟩
noncomputable def d_int2digits : MDef := ⟨[.loc 31, .cel 33], [33, 45, 46], [], .stmts (.cons (.asg (.cel 45) (.bin .Mult (.lst (.cons (.lit (.int 0)) (.nil))) (.bin .FloorDiv (.bin .Sub (.bin .Add (.mth (.loc 31) 8 (.nil)) (.cel 33)) (.lit (.int 1))) (.cel 33)))) (.cons (.fdef (.cel 46) 500 [45, 46, 33]) (.cons (.ife (.val (.loc 31)) (.cons (.ex (.call (.cel 46) (.cons (.loc 31) (.cons (.lit (.int 0)) (.cons (.prim .len (.cons (.cel 45) (.nil))) (.nil)))))) (.nil)) (.nil)) (.cons (.ret (.cel 45)) (.nil)))))⟩
noncomputable def d_digits2int : MDef := ⟨[.cel 53, .cel 33], [53, 33, 46], [], .stmts (.cons (.fdef (.cel 46) 501 [53, 46, 33]) (.cons (.ret (.ife (.val (.cel 53)) (.call (.cel 46) (.cons (.lit (.int 0)) (.cons (.prim .len (.cons (.cel 53) (.nil))) (.nil)))) (.lit (.int 0)))) (.nil)))⟩
noncomputable def d_divmod_pos : MDef := ⟨[.loc 31, .loc 32], [], [], .stmts (.cons (.asg (.loc 33) (.mth (.loc 32) 8 (.nil))) (.cons (.asg (.loc 45) (.call (.glb 14) (.cons (.loc 31) (.cons (.loc 33) (.nil))))) (.cons (.asg (.loc 34) (.lit (.int 0))) (.cons (.asg (.loc 54) (.lst (.nil))) (.cons (.forr (.loc 55) (.prim .rev (.cons (.loc 45) (.nil))) (.cons (.asgT [.loc 56, .loc 34] (.call (.glb 12) (.cons (.bin .Add (.bin .LShift (.loc 34) (.loc 33)) (.loc 55)) (.cons (.loc 32) (.cons (.loc 33) (.nil)))))) (.cons (.ex (.mth (.loc 54) 1 (.cons (.loc 56) (.nil)))) (.nil)))) (.cons (.ex (.mth (.loc 54) 3 (.nil))) (.cons (.asg (.loc 44) (.call (.glb 15) (.cons (.loc 54) (.cons (.loc 33) (.nil))))) (.cons (.ret (.tup (.cons (.loc 44) (.cons (.loc 34) (.nil))))) (.nil)))))))))⟩
noncomputable def dint_divmod : MDef := ⟨[.loc 31, .loc 32], [], [], .stmts (.cons (.ife (.cmp .Eq (.loc 32) (.lit (.int 0))) (.cons (.bad) (.nil)) (.cons (.ife (.cmp .Lt (.loc 32) (.lit (.int 0))) (.cons (.asgT [.loc 44, .loc 34] (.call (.glb 17) (.cons (.neg (.loc 31)) (.cons (.neg (.loc 32)) (.nil))))) (.cons (.ret (.tup (.cons (.loc 44) (.cons (.neg (.loc 34)) (.nil))))) (.nil))) (.cons (.ife (.cmp .Lt (.loc 31) (.lit (.int 0))) (.cons (.asgT [.loc 44, .loc 34] (.call (.glb 17) (.cons (.inv (.loc 31)) (.cons (.loc 32) (.nil))))) (.cons (.ret (.tup (.cons (.inv (.loc 44)) (.cons (.bin .Add (.loc 32) (.inv (.loc 34))) (.nil))))) (.nil))) (.cons (.ret (.call (.glb 16) (.cons (.loc 31) (.cons (.loc 32) (.nil))))) (.nil))) (.nil))) (.nil))) (.nil))⟩
noncomputable def d_netrclex___init__ : MDef := ⟨[.loc 57, .loc 58], [], [], .stmts (.cons (.setA (.loc 57) 62 (.lit (.int 1))) (.cons (.setA (.loc 57) 61 (.loc 58)) (.cons (.setA (.loc 57) 60 (.lit (.str [10, 9, 13, 32]))) (.cons (.setA (.loc 57) 59 (.lst (.nil))) (.nil)))))⟩
noncomputable def d_netrclex__read_char : MDef := ⟨[.loc 57], [], [], .stmts (.cons (.asg (.loc 64) (.mth (.att (.loc 57) 61) 65 (.cons (.lit (.int 1)) (.nil)))) (.cons (.ife (.cmp .Eq (.loc 64) (.lit (.str [10]))) (.cons (.augA (.loc 57) 62 .Add (.lit (.int 1))) (.nil)) (.nil)) (.cons (.ret (.loc 64)) (.nil))))⟩
noncomputable def d_netrclex_get_token : MDef := ⟨[.loc 57], [], [], .stmts (.cons (.ife (.val (.att (.loc 57) 59)) (.cons (.ret (.mth (.att (.loc 57) 59) 2 (.cons (.lit (.int 0)) (.nil)))) (.nil)) (.nil)) (.cons (.asg (.loc 67) (.lit (.str []))) (.cons (.asg (.loc 68) (.prim .iter (.cons (.att (.loc 57) 66) (.cons (.lit (.str [])) (.nil))))) (.cons (.forr (.loc 64) (.loc 68) (.cons (.ife (.cmp .In (.loc 64) (.att (.loc 57) 60)) (.cons (.cnt) (.nil)) (.nil)) (.cons (.ife (.cmp .Eq (.loc 64) (.lit (.str [34]))) (.cons (.forr (.loc 64) (.loc 68) (.cons (.ife (.cmp .Eq (.loc 64) (.lit (.str [34]))) (.cons (.ret (.loc 67)) (.nil)) (.cons (.ife (.cmp .Eq (.loc 64) (.lit (.str [92]))) (.cons (.asg (.loc 64) (.mth (.loc 57) 66 (.nil))) (.nil)) (.nil)) (.nil))) (.cons (.aug (.loc 67) .Add (.loc 64)) (.nil)))) (.nil)) (.cons (.ife (.cmp .Eq (.loc 64) (.lit (.str [92]))) (.cons (.asg (.loc 64) (.mth (.loc 57) 66 (.nil))) (.nil)) (.nil)) (.cons (.aug (.loc 67) .Add (.loc 64)) (.cons (.forr (.loc 64) (.loc 68) (.cons (.ife (.cmp .In (.loc 64) (.att (.loc 57) 60)) (.cons (.ret (.loc 67)) (.nil)) (.cons (.ife (.cmp .Eq (.loc 64) (.lit (.str [92]))) (.cons (.asg (.loc 64) (.mth (.loc 57) 66 (.nil))) (.nil)) (.nil)) (.nil))) (.cons (.aug (.loc 67) .Add (.loc 64)) (.nil)))) (.nil))))) (.nil)))) (.cons (.ret (.loc 67)) (.nil))))))⟩
noncomputable def d_netrclex_push_token : MDef := ⟨[.loc 57, .loc 67], [], [], .stmts (.cons (.ex (.mth (.att (.loc 57) 59) 1 (.cons (.loc 67) (.nil)))) (.nil))⟩
noncomputable def dWhitespace___init__ : MDef := ⟨[.loc 57, .loc 71], [], [], .stmts (.cons (.setA (.loc 57) 75 (.loc 71)) (.cons (.asgT [.loc 76, .loc 77] (.tup (.cons (.att (.glb 19) 76) (.cons (.att (.glb 19) 77) (.nil))))) (.cons (.asg (.loc 6) (.lst (.nil))) (.cons (.asgC [.loc 32, .loc 33, .loc 74] (.lit (.int 0))) (.cons (.forr (.loc 64) (.att (.loc 57) 75) (.cons (.ife (.cmp .Eq (.loc 64) (.loc 76)) (.cons (.asg (.loc 33) (.bin .Add (.loc 33) (.lit (.int 1)))) (.cons (.asg (.loc 32) (.bin .Add (.loc 32) (.lit (.int 1)))) (.nil))) (.cons (.ife (.cmp .Eq (.loc 64) (.loc 77)) (.cons (.asg (.loc 33) (.bin .Add (.loc 33) (.lit (.int 1)))) (.cons (.asg (.loc 74) (.bin .Add (.loc 74) (.lit (.int 1)))) (.cons (.ife (.cmp .GtE (.loc 32) (.prim .len (.cons (.loc 6) (.nil)))) (.cons (.asg (.loc 6) (.bin .Add (.loc 6) (.bin .Mult (.lst (.cons (.lit (.int 0)) (.nil))) (.bin .Add (.bin .Sub (.loc 32) (.prim .len (.cons (.loc 6) (.nil)))) (.lit (.int 1)))))) (.nil)) (.nil)) (.cons (.setI (.loc 6) (.loc 32) (.bin .Add (.idx (.loc 6) (.loc 32)) (.lit (.int 1)))) (.cons (.asg (.loc 32) (.lit (.int 0))) (.nil)))))) (.cons (.brk) (.nil))) (.nil))) (.nil))) (.cons (.setA (.loc 57) 33 (.loc 33)) (.cons (.setA (.loc 57) 74 (.loc 74)) (.cons (.setA (.loc 57) 73 (.tup (.cons (.prim .tuple (.cons (.loc 6) (.nil))) (.cons (.loc 32) (.nil))))) (.cons (.setA (.loc 57) 72 (.cmp .LtE (.prim .len (.cons (.loc 6) (.nil))) (.lit (.int 1)))) (.nil))))))))))⟩
noncomputable def dWhitespace_longest_run_of_spaces : MDef := ⟨[.loc 57], [], [], .stmts (.cons (.asgT [.loc 6, .loc 78] (.att (.loc 57) 73)) (.cons (.ret (.prim .max (.cons (.bin .Sub (.prim .len (.cons (.loc 6) (.nil))) (.lit (.int 1))) (.cons (.loc 78) (.nil))))) (.nil)))⟩
noncomputable def dWhitespace_indent_level : MDef := ⟨[.loc 57, .loc 80], [], [], .stmts (.cons (.asgT [.loc 6, .loc 78] (.att (.loc 57) 73)) (.cons (.asg (.loc 81) (.lit (.int 0))) (.cons (.forr (.loc 82) (.prim .range (.cons (.loc 80) (.cons (.prim .len (.cons (.loc 6) (.nil))) (.nil)))) (.cons (.asg (.loc 81) (.bin .Add (.loc 81) (.bin .Mult (.bin .FloorDiv (.loc 82) (.loc 80)) (.idx (.loc 6) (.loc 82))))) (.nil))) (.cons (.ret (.bin .Add (.loc 78) (.bin .Mult (.loc 80) (.bin .Add (.loc 81) (.att (.loc 57) 74))))) (.nil)))))⟩
noncomputable def d_substitution_cost : MDef := ⟨[.loc 84, .loc 85], [], [], .stmts (.cons (.ife (.cmp .Eq (.loc 84) (.loc 85)) (.cons (.ret (.lit (.int 0))) (.nil)) (.nil)) (.cons (.ife (.cmp .Eq (.mth (.loc 84) 4 (.nil)) (.mth (.loc 85) 4 (.nil))) (.cons (.ret (.glb 22)) (.nil)) (.nil)) (.cons (.ret (.glb 21)) (.nil))))⟩
noncomputable def d_levenshtein_distance : MDef := ⟨[.loc 31, .loc 32, .loc 86], [], [], .stmts (.cons (.ife (.cmp .Eq (.loc 31) (.loc 32)) (.cons (.ret (.lit (.int 0))) (.nil)) (.nil)) (.cons (.asg (.loc 96) (.lit (.int 0))) (.cons (.whl (.bop .And (.cons (.val (.slc (.loc 31) (.loc 96) (.lit .none))) (.cons (.val (.slc (.loc 32) (.loc 96) (.lit .none))) (.cons (.cmp .Eq (.idx (.loc 31) (.loc 96)) (.idx (.loc 32) (.loc 96))) (.nil))))) (.cons (.aug (.loc 96) .Add (.lit (.int 1))) (.nil))) (.cons (.asg (.loc 31) (.slc (.loc 31) (.loc 96) (.lit .none))) (.cons (.asg (.loc 32) (.slc (.loc 32) (.loc 96) (.lit .none))) (.cons (.asg (.loc 95) (.lit (.int 0))) (.cons (.whl (.bop .And (.cons (.val (.slc (.loc 31) (.lit .none) (.bop .Or (.loc 95) (.cons (.lit .none) (.nil))))) (.cons (.val (.slc (.loc 32) (.lit .none) (.bop .Or (.loc 95) (.cons (.lit .none) (.nil))))) (.cons (.cmp .Eq (.idx (.loc 31) (.bin .Sub (.loc 95) (.lit (.int 1)))) (.idx (.loc 32) (.bin .Sub (.loc 95) (.lit (.int 1))))) (.nil))))) (.cons (.aug (.loc 95) .Sub (.lit (.int 1))) (.nil))) (.cons (.asg (.loc 31) (.slc (.loc 31) (.lit .none) (.bop .Or (.loc 95) (.cons (.lit .none) (.nil))))) (.cons (.asg (.loc 32) (.slc (.loc 32) (.lit .none) (.bop .Or (.loc 95) (.cons (.lit .none) (.nil))))) (.cons (.ife (.bop .Or (.cons (.not (.val (.loc 31))) (.cons (.not (.val (.loc 32))) (.nil)))) (.cons (.ret (.bin .Mult (.glb 21) (.bin .Add (.prim .len (.cons (.loc 31) (.nil))) (.prim .len (.cons (.loc 32) (.nil)))))) (.nil)) (.nil)) (.cons (.ife (.bop .Or (.cons (.cmp .Gt (.prim .len (.cons (.loc 31) (.nil))) (.glb 20)) (.cons (.cmp .Gt (.prim .len (.cons (.loc 32) (.nil))) (.glb 20)) (.nil)))) (.cons (.ret (.bin .Add (.loc 86) (.lit (.int 1)))) (.nil)) (.nil)) (.cons (.ife (.cmp .Lt (.prim .len (.cons (.loc 32) (.nil))) (.prim .len (.cons (.loc 31) (.nil)))) (.cons (.asgT [.loc 31, .loc 32] (.tup (.cons (.loc 32) (.cons (.loc 31) (.nil))))) (.nil)) (.nil)) (.cons (.ife (.cmp .Gt (.bin .Mult (.bin .Sub (.prim .len (.cons (.loc 32) (.nil))) (.prim .len (.cons (.loc 31) (.nil)))) (.glb 21)) (.loc 86)) (.cons (.ret (.bin .Add (.loc 86) (.lit (.int 1)))) (.nil)) (.nil)) (.cons (.asg (.loc 90) (.prim .list (.cons (.prim .range (.cons (.glb 21) (.cons (.bin .Mult (.glb 21) (.bin .Add (.prim .len (.cons (.loc 31) (.nil))) (.lit (.int 1)))) (.cons (.glb 21) (.nil))))) (.nil)))) (.cons (.asg (.loc 87) (.lit (.int 0))) (.cons (.forr (.loc 88) (.prim .range (.cons (.prim .len (.cons (.loc 32) (.nil))) (.nil))) (.cons (.asg (.loc 94) (.idx (.loc 32) (.loc 88))) (.cons (.asgC [.loc 93, .loc 87] (.bin .Mult (.loc 88) (.glb 21))) (.cons (.asg (.loc 89) (.lit (.int 9223372036854775807))) (.cons (.forr (.loc 7) (.prim .range (.cons (.prim .len (.cons (.loc 31) (.nil))) (.nil))) (.cons (.asg (.loc 91) (.bin .Add (.loc 93) (.call (.glb 23) (.cons (.loc 94) (.cons (.idx (.loc 31) (.loc 7)) (.nil)))))) (.cons (.asg (.loc 93) (.idx (.loc 90) (.loc 7))) (.cons (.asg (.loc 92) (.bin .Add (.prim .min (.cons (.loc 87) (.cons (.loc 93) (.nil)))) (.glb 21))) (.cons (.asg (.loc 87) (.prim .min (.cons (.loc 92) (.cons (.loc 91) (.nil))))) (.cons (.setI (.loc 90) (.loc 7) (.loc 87)) (.cons (.ife (.cmp .Lt (.loc 87) (.loc 89)) (.cons (.asg (.loc 89) (.loc 87)) (.nil)) (.nil)) (.nil)))))))) (.cons (.ife (.cmp .Gt (.loc 89) (.loc 86)) (.cons (.ret (.bin .Add (.loc 86) (.lit (.int 1)))) (.nil)) (.nil)) (.nil))))))) (.cons (.ret (.loc 87)) (.nil))))))))))))))))))⟩
noncomputable def d_law_lexer : MDef := ⟨[.loc 97], [98], [], .stmts (.cons (.asg (.cel 98) (.prim .list (.cons (.loc 97) (.nil)))) (.cons (.ex (.mth (.cel 98) 3 (.nil))) (.cons (.asg (.loc 99) (.call (.glb 18) (.cons (.lit .none) (.nil)))) (.cons (.setA (.loc 99) 65 (.lam 502 [98])) (.cons (.ret (.call (.glb 18) (.cons (.loc 99) (.nil)))) (.nil))))))⟩
noncomputable def d_law_changed : MDef := ⟨[.loc 100], [], [], .stmts (.cons (.asg (.loc 101) (.lst (.nil))) (.cons (.forr (.loc 102) (.prim .range (.cons (.lit (.int 6)) (.nil))) (.cons (.ife (.cmp .Eq (.slc (.loc 100) (.loc 102) (.bin .Add (.loc 102) (.lit (.int 3)))) (.lit (.str [32, 9, 9]))) (.cons (.ex (.mth (.loc 101) 1 (.cons (.bin .Add (.bin .Add (.slc (.loc 100) (.lit .none) (.loc 102)) (.lit (.str [9, 32, 32]))) (.slc (.loc 100) (.bin .Add (.loc 102) (.lit (.int 3))) (.lit .none))) (.nil)))) (.nil)) (.cons (.ife (.cmp .Eq (.slc (.loc 100) (.loc 102) (.bin .Add (.loc 102) (.lit (.int 3)))) (.lit (.str [9, 32, 32]))) (.cons (.ex (.mth (.loc 101) 1 (.cons (.bin .Add (.bin .Add (.slc (.loc 100) (.lit .none) (.loc 102)) (.lit (.str [32, 9, 9]))) (.slc (.loc 100) (.bin .Add (.loc 102) (.lit (.int 3))) (.lit .none))) (.nil)))) (.nil)) (.nil)) (.nil))) (.nil))) (.cons (.ret (.loc 101)) (.nil))))⟩
noncomputable def d_law_ways : MDef := ⟨[.loc 103, .loc 104], [], [], .stmts (.cons (.ife (.bop .Or (.cons (.cmp .Lt (.loc 104) (.lit (.int 0))) (.cons (.cmp .Gt (.loc 104) (.prim .sum (.cons (.loc 103) (.nil)))) (.nil)))) (.cons (.ret (.lst (.nil))) (.nil)) (.nil)) (.cons (.ife (.cmp .Eq (.loc 103) (.lst (.nil))) (.cons (.ret (.lst (.cons (.lit (.str [])) (.nil)))) (.nil)) (.nil)) (.cons (.asg (.loc 105) (.comp (.bin .Add (.lit (.str [32])) (.loc 100)) 100 (.call (.glb 27) (.cons (.slc (.loc 103) (.lit (.int 1)) (.lit .none)) (.cons (.loc 104) (.nil)))) [])) (.cons (.ret (.bin .Add (.loc 105) (.comp (.bin .Add (.lit (.str [9])) (.loc 100)) 100 (.call (.glb 27) (.cons (.slc (.loc 103) (.lit (.int 1)) (.lit .none)) (.cons (.bin .Sub (.loc 104) (.idx (.loc 103) (.lit (.int 0)))) (.nil)))) []))) (.nil)))))⟩
noncomputable def d_law_greedy : MDef := ⟨[.loc 103, .loc 104], [], [], .stmts (.cons (.asg (.loc 98) (.lit (.str []))) (.cons (.forr (.loc 106) (.loc 103) (.cons (.ife (.cmp .LtE (.loc 106) (.loc 104)) (.cons (.asg (.loc 98) (.bin .Add (.loc 98) (.lit (.str [9])))) (.cons (.asg (.loc 104) (.bin .Sub (.loc 104) (.loc 106))) (.nil))) (.cons (.asg (.loc 98) (.bin .Add (.loc 98) (.lit (.str [32])))) (.nil))) (.nil))) (.cons (.ret (.loc 98)) (.nil))))⟩
noncomputable def d_law_lazy : MDef := ⟨[.loc 103, .loc 104], [], [], .stmts (.cons (.asg (.loc 98) (.lit (.str []))) (.cons (.forr (.loc 107) (.prim .range (.cons (.prim .len (.cons (.loc 103) (.nil))) (.nil))) (.cons (.ife (.cmp .Gt (.loc 104) (.prim .sum (.cons (.slc (.loc 103) (.bin .Add (.loc 107) (.lit (.int 1))) (.lit .none)) (.nil)))) (.cons (.asg (.loc 98) (.bin .Add (.loc 98) (.lit (.str [9])))) (.cons (.asg (.loc 104) (.bin .Sub (.loc 104) (.idx (.loc 103) (.loc 107)))) (.nil))) (.cons (.asg (.loc 98) (.bin .Add (.loc 98) (.lit (.str [32])))) (.nil))) (.nil))) (.cons (.ret (.loc 98)) (.nil))))⟩
/-- the law, from its third statement on -/
noncomputable def lawCells : List Nat := [108, 109, 103, 110, 111]
noncomputable def lawRest : Ss := .cons (.asg (.cel 108) (.bin .Add (.lit (.int 1)) (.bin .Mod (.loc 133) (.lit (.int 127))))) (.cons (.asg (.cel 109) (.bin .Add (.lit (.str [32])) (.mth (.lit (.str [])) 5 (.cons (.comp (.ife (.cmp .Eq (.bin .Mod (.bin .FloorDiv (.cel 108) (.bin .Pow (.lit (.int 2)) (.loc 134))) (.lit (.int 2))) (.lit (.int 1))) (.lit (.str [9])) (.lit (.str [32]))) 134 (.lst (.cons (.lit (.int 6)) (.cons (.lit (.int 5)) (.cons (.lit (.int 4)) (.cons (.lit (.int 3)) (.cons (.lit (.int 2)) (.cons (.lit (.int 1)) (.cons (.lit (.int 0)) (.nil))))))))) [108]) (.nil))))) (.cons (.ife (.cmp .Eq (.bin .Mod (.bin .FloorDiv (.loc 133) (.lit (.int 127))) (.lit (.int 2))) (.lit (.int 0))) (.cons (.asg (.loc 97) (.bin .Add (.bin .Add (.lit (.str [34])) (.cel 109)) (.lit (.str [34, 10, 101, 110, 100])))) (.nil)) (.cons (.asg (.loc 97) (.bin .Add (.mth (.lit (.str [])) 5 (.cons (.comp (.bin .Add (.lit (.str [92])) (.loc 123)) 123 (.cel 109) []) (.nil))) (.lit (.str [10, 101, 110, 100])))) (.nil))) (.cons (.asg (.cel 103) (.lst (.cons (.lit (.int 34)) (.cons (.lit (.int 21)) (.cons (.lit (.int 13)) (.cons (.lit (.int 8)) (.cons (.lit (.int 5)) (.cons (.lit (.int 3)) (.cons (.lit (.int 2)) (.cons (.lit (.int 1)) (.nil))))))))))) (.cons (.asg (.loc 132) (.compIf (.loc 107) 107 (.prim .range (.cons (.lit (.int 8)) (.nil))) (.cmp .Eq (.idx (.cel 109) (.loc 107)) (.lit (.str [9]))) [109])) (.cons (.asg (.loc 128) (.prim .sum (.cons (.comp (.idx (.cel 103) (.loc 107)) 107 (.loc 132) [103]) (.nil)))) (.cons (.asg (.loc 51) (.prim .sum (.cons (.comp (.idx (.lst (.cons (.lit (.int 13)) (.cons (.lit (.int 8)) (.cons (.lit (.int 5)) (.cons (.lit (.int 3)) (.cons (.lit (.int 2)) (.cons (.lit (.int 1)) (.cons (.lit (.int 1)) (.cons (.lit (.int 0)) (.nil)))))))))) (.loc 107)) 107 (.loc 132) []) (.nil)))) (.cons (.asg (.loc 4) (.prim .sum (.cons (.comp (.idx (.lst (.cons (.lit (.int 8)) (.cons (.lit (.int 5)) (.cons (.lit (.int 3)) (.cons (.lit (.int 2)) (.cons (.lit (.int 1)) (.cons (.lit (.int 1)) (.cons (.lit (.int 0)) (.cons (.lit (.int 1)) (.nil)))))))))) (.loc 107)) 107 (.loc 132) []) (.nil)))) (.cons (.asg (.loc 130) (.call (.glb 25) (.cons (.loc 97) (.nil)))) (.cons (.asg (.loc 129) (.lst (.cons (.cel 109) (.nil)))) (.cons (.asg (.cel 110) (.lst (.nil))) (.cons (.asg (.loc 100) (.mth (.loc 130) 69 (.nil))) (.cons (.whl (.bop .And (.cons (.cmp .NotEq (.loc 100) (.lit (.str [101, 110, 100]))) (.cons (.cmp .Lt (.prim .len (.cons (.cel 110) (.nil))) (.lit (.int 20))) (.nil)))) (.cons (.ex (.mth (.cel 110) 1 (.cons (.loc 100) (.nil)))) (.cons (.forr (.loc 131) (.call (.glb 26) (.cons (.loc 100) (.nil))) (.cons (.ife (.cmp .NotIn (.loc 131) (.loc 129)) (.cons (.ife (.cmp .NotEq (.call (.glb 24) (.cons (.loc 100) (.cons (.loc 131) (.cons (.lit (.int 6)) (.nil))))) (.lit (.int 6))) (.cons (.ret (.lit (.bool false))) (.nil)) (.nil)) (.cons (.ex (.mth (.loc 129) 1 (.cons (.loc 131) (.nil)))) (.cons (.ex (.mth (.loc 130) 70 (.cons (.loc 131) (.nil)))) (.nil)))) (.nil)) (.nil))) (.cons (.asg (.loc 100) (.mth (.loc 130) 69 (.nil))) (.nil))))) (.cons (.ife (.bop .Or (.cons (.cmp .NotEq (.loc 100) (.lit (.str [101, 110, 100]))) (.cons (.cmp .NotEq (.att (.loc 130) 62) (.lit (.int 2))) (.cons (.cmp .NotEq (.mth (.loc 130) 69 (.nil)) (.lit (.str []))) (.nil))))) (.cons (.ret (.lit (.bool false))) (.nil)) (.nil)) (.cons (.ife (.bop .Or (.cons (.cmp .NotEq (.cel 110) (.slc (.loc 129) (.lit .none) (.prim .len (.cons (.cel 110) (.nil))))) (.cons (.cmp .NotEq (.prim .sorted (.cons (.cel 110) (.nil))) (.prim .sorted (.cons (.call (.glb 27) (.cons (.cel 103) (.cons (.loc 128) (.nil)))) (.nil)))) (.nil)))) (.cons (.ret (.lit (.bool false))) (.nil)) (.nil)) (.cons (.asg (.loc 113) (.call (.glb 28) (.cons (.cel 103) (.cons (.loc 128) (.nil))))) (.cons (.asg (.loc 115) (.call (.glb 29) (.cons (.cel 103) (.cons (.loc 128) (.nil))))) (.cons (.asg (.loc 121) (.bin .Add (.lit (.int 6)) (.bin .Mod (.loc 127) (.lit (.int 5000))))) (.cons (.asg (.loc 116) (.bin .Pow (.lit (.int 2)) (.loc 121))) (.cons (.asg (.loc 118) (.bin .Sub (.bin .Sub (.bin .Mult (.loc 116) (.loc 116)) (.loc 116)) (.lit (.int 1)))) (.cons (.asg (.cel 111) (.lst (.nil))) (.cons (.forr (.loc 100) (.cel 110) (.cons (.asg (.loc 125) (.call (.glb 19) (.cons (.loc 100) (.nil)))) (.cons (.asg (.loc 126) (.call (.glb 19) (.cons (.slc (.loc 100) (.mth (.loc 100) 7 (.cons (.lit (.str [9])) (.nil))) (.lit .none)) (.nil)))) (.cons (.ife (.cmp .NotEq (.tup (.cons (.att (.loc 125) 33) (.cons (.att (.loc 125) 74) (.nil)))) (.tup (.cons (.lit (.int 8)) (.cons (.mth (.loc 100) 6 (.cons (.lit (.str [9])) (.nil))) (.nil))))) (.cons (.ret (.lit (.bool false))) (.nil)) (.nil)) (.cons (.ife (.cmp .NotEq (.cmp .Eq (.idx (.idx (.att (.loc 126) 73) (.lit (.int 0))) (.lit (.int 0))) (.lit (.int 1))) (.cmp .Eq (.loc 100) (.loc 113))) (.cons (.ret (.lit (.bool false))) (.nil)) (.nil)) (.cons (.ife (.cmp .NotEq (.cmp .LtE (.mth (.loc 126) 79 (.nil)) (.lit (.int 1))) (.cmp .Eq (.loc 100) (.loc 115))) (.cons (.ret (.lit (.bool false))) (.nil)) (.nil)) (.cons (.ex (.mth (.cel 111) 1 (.cons (.mth (.loc 125) 83 (.cons (.lit (.int 9)) (.nil))) (.nil)))) (.cons (.asg (.loc 106) (.lit (.int 0))) (.cons (.asg (.loc 122) (.lst (.nil))) (.cons (.forr (.loc 123) (.loc 100) (.cons (.asg (.loc 124) (.ife (.cmp .Eq (.loc 123) (.lit (.str [9]))) (.lit (.int 1)) (.lit (.int 0)))) (.cons (.asg (.loc 106) (.bin .Add (.bin .Mult (.loc 106) (.loc 116)) (.loc 124))) (.cons (.asg (.loc 122) (.bin .Add (.lst (.cons (.loc 124) (.nil))) (.loc 122))) (.nil))))) (.cons (.asg (.loc 119) (.call (.glb 15) (.cons (.loc 122) (.cons (.loc 121) (.nil))))) (.cons (.asgT [.loc 120, .loc 117] (.call (.glb 17) (.cons (.loc 119) (.cons (.loc 118) (.nil))))) (.cons (.ife (.bop .Or (.cons (.cmp .NotEq (.loc 119) (.loc 106)) (.cons (.cmp .NotEq (.loc 117) (.bin .Add (.bin .Mult (.loc 51) (.loc 116)) (.loc 4))) (.cons (.cmp .NotEq (.bin .Add (.bin .Mult (.loc 120) (.loc 118)) (.loc 117)) (.loc 106)) (.nil))))) (.cons (.ret (.lit (.bool false))) (.nil)) (.nil)) (.cons (.ife (.cmp .NotEq (.call (.glb 17) (.cons (.neg (.loc 119)) (.cons (.loc 118) (.nil)))) (.tup (.cons (.bin .Sub (.neg (.loc 120)) (.lit (.int 1))) (.cons (.bin .Sub (.loc 118) (.loc 117)) (.nil))))) (.cons (.ret (.lit (.bool false))) (.nil)) (.nil)) (.cons (.ife (.cmp .NotEq (.call (.glb 17) (.cons (.loc 117) (.cons (.loc 116) (.nil)))) (.tup (.cons (.loc 51) (.cons (.loc 4) (.nil))))) (.cons (.ret (.lit (.bool false))) (.nil)) (.nil)) (.nil)))))))))))))))) (.cons (.asg (.loc 112) (.compIf (.idx (.cel 110) (.loc 107)) 107 (.prim .range (.cons (.prim .len (.cons (.cel 110) (.nil))) (.nil))) (.cmp .Eq (.idx (.cel 111) (.loc 107)) (.prim .min (.cons (.cel 111) (.nil)))) [110, 111])) (.cons (.asg (.loc 114) (.compIf (.idx (.cel 110) (.loc 107)) 107 (.prim .range (.cons (.prim .len (.cons (.cel 110) (.nil))) (.nil))) (.cmp .Eq (.idx (.cel 111) (.loc 107)) (.prim .max (.cons (.cel 111) (.nil)))) [110, 111])) (.cons (.ret (.bop .And (.cmp .Eq (.loc 112) (.lst (.cons (.loc 113) (.nil)))) (.cons (.cmp .Eq (.loc 114) (.lst (.cons (.loc 115) (.nil)))) (.nil)))) (.nil)))))))))))))))))))))))))
noncomputable def fnT : List (Nat × MDef × List Nat) := [(12, d_div2n1n, []), (13, d_div3n2n, []), (14, d_int2digits, [500]), (15, d_digits2int, [501]), (16, d_divmod_pos, []), (17, dint_divmod, []), (300, d_netrclex___init__, []), (301, d_netrclex__read_char, []), (302, d_netrclex_get_token, []), (303, d_netrclex_push_token, []), (304, dWhitespace___init__, []), (305, dWhitespace_longest_run_of_spaces, []), (306, dWhitespace_indent_level, []), (23, d_substitution_cost, []), (24, d_levenshtein_distance, []), (25, d_law_lexer, [502]), (26, d_law_changed, []), (27, d_law_ways, []), (28, d_law_greedy, []), (29, d_law_lazy, [])]
noncomputable def mkT : List (Nat × Nat × Nat) := [(0, 63, 300), (0, 66, 301), (0, 69, 302), (0, 70, 303), (1, 63, 304), (1, 79, 305), (1, 83, 306)]
noncomputable def cloT : List (Nat × MDef × String × Nat × Nat) := [(500, dClo500, "inner", 35, 4), (501, dClo501, "inner", 50, 4), (502, dClo502, "<lambda>", 225, 18)]
noncomputable def datT : List (Nat × Nat) := [(0, 62), (0, 61), (0, 60), (0, 59), (0, 65), (1, 75), (1, 33), (1, 74), (1, 73), (1, 72)]
noncomputable def nameT : List String := ["#0", "append", "pop", "reverse", "lower", "join", "count", "index", "bit_length", "_wall", "__name__", "_DIV_LIMIT", "_div2n1n", "_div3n2n", "_int2digits", "_digits2int", "_divmod_pos", "int_divmod", "_netrclex", "Whitespace", "_MAX_STRING_SIZE", "_MOVE_COST", "_CASE_COST", "_substitution_cost", "_levenshtein_distance", "_law_lexer", "_law_changed", "_law_ways", "_law_greedy", "_law_lazy", "law", "a", "b", "n", "r", "q1", "half_n", "q2", "pad", "b2", "b1", "mask", "a12", "a3", "q", "a_digits", "inner", "x", "L", "R", "mid", "upper", "shift", "digits", "q_digits", "a_digit", "q_digit", "self", "fp", "pushback", "whitespace", "instream", "lineno", "__init__", "ch", "read", "_read_char", "token", "fiter", "get_token", "push_token", "ws", "is_simple", "norm", "nt", "raw", "S", "T", "trailing", "longest_run_of_spaces", "tabsize", "il", "i", "indent_level", "ch_a", "ch_b", "max_cost", "result", "bindex", "minimum", "row", "substitute", "insert_delete", "distance", "bchar", "post", "pre", "text", "signs", "stream", "word", "found", "at", "worths", "left", "without", "worth", "k", "figures", "drawn", "came", "columns", "nearest", "greedy", "farthest", "lazy", "base", "rest", "divisor", "told", "quotient", "width", "places", "sign", "figure", "lead", "behind", "second", "number", "met", "lexer", "other", "tabs", "first", "place"]
/- numbers: 0=#0, 1=append, 2=pop, 3=reverse, 4=lower, 5=join, 6=count, 7=index, 8=bit_length, 9=_wall, 10=__name__, 11=_DIV_LIMIT, 12=_div2n1n, 13=_div3n2n, 14=_int2digits, 15=_digits2int, 16=_divmod_pos, 17=int_divmod, 18=_netrclex, 19=Whitespace, 20=_MAX_STRING_SIZE, 21=_MOVE_COST, 22=_CASE_COST, 23=_substitution_cost, 24=_levenshtein_distance, 25=_law_lexer, 26=_law_changed, 27=_law_ways, 28=_law_greedy, 29=_law_lazy, 30=law, 31=a, 32=b, 33=n, 34=r, 35=q1, 36=half_n, 37=q2, 38=pad, 39=b2, 40=b1, 41=mask, 42=a12, 43=a3, 44=q, 45=a_digits, 46=inner, 47=x, 48=L, 49=R, 50=mid, 51=upper, 52=shift, 53=digits, 54=q_digits, 55=a_digit, 56=q_digit, 57=self, 58=fp, 59=pushback, 60=whitespace, 61=instream, 62=lineno, 63=__init__, 64=ch, 65=read, 66=_read_char, 67=token, 68=fiter, 69=get_token, 70=push_token, 71=ws, 72=is_simple, 73=norm, 74=nt, 75=raw, 76=S, 77=T, 78=trailing, 79=longest_run_of_spaces, 80=tabsize, 81=il, 82=i, 83=indent_level, 84=ch_a, 85=ch_b, 86=max_cost, 87=result, 88=bindex, 89=minimum, 90=row, 91=substitute, 92=insert_delete, 93=distance, 94=bchar, 95=post, 96=pre, 97=text, 98=signs, 99=stream, 100=word, 101=found, 102=at, 103=worths, 104=left, 105=without, 106=worth, 107=k, 108=figures, 109=drawn, 110=came, 111=columns, 112=nearest, 113=greedy, 114=farthest, 115=lazy, 116=base, 117=rest, 118=divisor, 119=told, 120=quotient, 121=width, 122=places, 123=sign, 124=figure, 125=lead, 126=behind, 127=second, 128=number, 129=met, 130=lexer, 131=other, 132=tabs, 133=first, 134=place -/
end Rz
end Q23
section Q24
open PySem PySem.W PySem.Calls PyProof.Rows
namespace Rz
set_option linter.unusedVariables false
set_option linter.unusedSimpArgs false
set_option maxRecDepth 100000

/-! the law's own names -/
noncomputable def nmT : List Str := nameT.map Str.ofString
noncomputable def NM (i : Nat) : Str := onSm nmT[i]? ⟨(List.replicate (i + 100) 63).toArray⟩ fun s => s
noncomputable def cloAt (k : Nat) : Option (MDef × String × Nat × Nat) := lk cloT k
noncomputable def mdd (k : Nat) (a : Arguments) (b : FuncBody) (sc : Scope) : Bool := onSm (cloAt k) false fun q => mDef NM (fun _ _ _ _ _ _ => false) q.1 a b sc
noncomputable def fvOf (k : Nat) : List Nat := onSm (cloAt k) [] fun q => q.1.fv
noncomputable def mdOf (made : List Nat) : Md := fun k nm pos a b sc => made.contains k && onSm (cloAt k) false (fun q => (Str.ofString q.2.1 == nm) && (q.2.2.1 == pos.line) && (q.2.2.2 == pos.col)) && mdd k a b sc && freesIn NM sc.names (fvOf k)

noncomputable abbrev prog : Program := PySem.Challenge.rw_sc0106_01.prog
end Rz
end Q24
section Q25
open PySem PySem.W PySem.Calls PyProof.Rows
namespace Rz
set_option linter.unusedVariables false
set_option linter.unusedSimpArgs false
set_option maxRecDepth 100000

/-! the mini world of the law -/
noncomputable def fnAt (k : Nat) : Option (MDef × List Nat) := lk fnT k
noncomputable def gT : List (Nat × V) := [(11, .int 4000), (20, .int 40), (21, .int 2), (22, .int 1), (18, .con 18), (19, .con 19), (12, .con 12), (13, .con 13), (14, .con 14), (15, .con 15), (16, .con 16), (17, .con 17), (23, .con 23), (24, .con 24), (25, .con 25), (26, .con 26), (27, .con 27), (28, .con 28), (29, .con 29)]
noncomputable def find2 {α : Type} : List (Nat × Nat × α) → Nat → Nat → Option α
  | [], _, _ => none
  | p :: r, x, y => bif Nat.beq p.1 x && Nat.beq p.2.1 y then some p.2.2 else find2 r x y
noncomputable def datAt : List (Nat × Nat) → Nat → Nat → Bool
  | [], _, _ => false
  | p :: r, x, y => bif Nat.beq p.1 x && Nat.beq p.2 y then true else datAt r x y
noncomputable def aT : List (Nat × Nat × V) := [(19, 76, .str [32]), (19, 77, .str [9])]
noncomputable def GG : Gl := ⟨lk gT, find2 mkT, find2 aT, datAt datT⟩
noncomputable def DD : Defs where
  fn k := onL (fnAt k) fun p => some p.1
  clo k := onL (cloAt k) fun p => some p.1
  cls k := bif Nat.beq k 18 then some (0, 300) else bif Nat.beq k 19 then some (1, 304) else none
noncomputable def takeS : Nat → Ss → Ss
  | 0, _ => .nil
  | n + 1, ss => match ss with
    | .nil => .nil
    | .cons s ss => .cons s (takeS n ss)
noncomputable def dropS : Nat → Ss → Ss
  | 0, ss => ss
  | n + 1, ss => match ss with
    | .nil => .nil
    | .cons _ ss => dropS n ss
noncomputable def H0 : MH := lawCells.map fun _ => .cell none
noncomputable def lawB : Ss := dropS 17 lawRest
end Rz
end Q25
section Q36
open PySem PySem.W PySem.Calls PyProof.Rows
namespace Rz
set_option linter.unusedVariables false
set_option linter.unusedSimpArgs false
set_option maxRecDepth 100000
/-- a run in two parts -/
theorem exL_split (G : Gl) (C : Call) (n : Nat) (k : Nat) (ss : Ss) (fr : Fr) (h : MH) (fr1 : Fr) (h1 : MH) (e : fSs G C n (takeS k ss) fr h = some (.nxt, fr1, h1)) : fSs G C n ss fr h = fSs G C n (dropS k ss) fr1 h1 := by
  induction k generalizing ss fr h with
  | zero => exact flow_e (PO := fun _ f m => fSs G C n ss fr h = fSs G C n ss f m) e rfl
  | succ k ih => cases ss with
    | nil => exact flow_e (PO := fun _ f m => fSs G C n .nil fr h = fSs G C n .nil f m) e rfl
    | cons s ss =>
      refine i_scons (show fSs G C n (.cons s (takeS k ss)) fr h = _ from e) (fun fr2 h2 e1 e => ?_) fun hne _ => absurd rfl hne
      show (fS G C n s fr h).bind (fun p => thenF (fSs G C n ss) p) = _
      rw [e1]
      exact ih ss fr2 h2 e
end Rz
end Q36
section Q28
open PySem PySem.W PySem.Calls PyProof.Rows
namespace Rz
set_option linter.unusedVariables false
set_option linter.unusedSimpArgs false
set_option maxRecDepth 100000

/-! a pure function, run in a small heap of its own -/
/-- ints and texts; a tuple of these -/
noncomputable def atomV (v : V) : Bool := V.casesOn (motive_1 := fun _ => Bool) v true (fun z => true) (fun z => true) (fun z => true) (fun vs => allAtoms vs) (fun z => false) (fun z => false) (fun x y z => false) (fun y z => false) (fun y z => false)
noncomputable def sameL (ws : List V) (h' : MH) : Bool := onSm (listAt h' 0) false fun b => allAtoms b && eqAtoms b ws
noncomputable def isoOut (o : Bool) (v : V) (h' H : MH) : Option (V × MH) := vC (iff (atomV v) (some (v, H))) v (r := fun j => onL (listAt h' j) fun ws => iff (allAtoms ws) (iff (!(o && Nat.beq j 0)) (some (.ref H.length, H ++ [.list ws]))))
/-- the arguments: at most one list of atoms, the first one -/
noncomputable def isoA (C : Call) (k i : Nat) (r : List V) (H : MH) : Option (V × MH) := onL (listAt H i) fun ws => iff (allAtoms ws && r.all atomV) ((C (.con k) (.ref 0 :: r) [.list ws]).bind fun p => iff (sameL ws p.2) (isoOut true p.1 p.2 H))
noncomputable def isoB (C : Call) (k : Nat) (vs : List V) (H : MH) : Option (V × MH) := iff (vs.all atomV) ((C (.con k) vs []).bind fun p => isoOut false p.1 p.2 H)
noncomputable def isoV (C : Call) (k : Nat) (vs : List V) (H : MH) : Option (V × MH) := match vs with
  | [] => isoB C k [] H
  | v :: r => vC (isoB C k (v :: r) H) v (r := fun i => isoA C k i r H)
noncomputable def isoC (C : Call) : Call := fun f vs H => vC none f (c := fun k => isoV C k vs H)
theorem iff_e {α : Type} {r : α} {b : Bool} {x : Option α} {Q : Prop} (e : iff b x = some r) (f : b = true → x = some r → Q) : Q := f (iff_some e).1 (iff_some e).2
theorem isoV_e {C : Call} {k : Nat} {vs : List V} {H : MH} {r : V × MH} {P : List V → Prop} (e : isoV C k vs H = some r) (k1 : ∀ i r', isoA C k i r' H = some r → P (.ref i :: r')) (k2 : ∀ vs, isoB C k vs H = some r → P vs) : P vs := by
  cases vs with
  | nil => exact k2 _ e
  | cons v q => cases v <;> first | exact k2 _ e | exact k1 _ _ e
theorem isoC_e {C : Call} {f : V} {vs : List V} {H : MH} {r : V × MH} {P : V → List V → Prop} (e : isoC C f vs H = some r) (k1 : ∀ k i ws r' p, listAt H i = some ws → allAtoms ws = true → r'.all atomV = true → C (.con k) (.ref 0 :: r') [.list ws] = some p → sameL ws p.2 = true → isoOut true p.1 p.2 H = some r → P (.con k) (.ref i :: r'))
    (k2 : ∀ k vs p, vs.all atomV = true → C (.con k) vs [] = some p → isoOut false p.1 p.2 H = some r → P (.con k) vs) : P f vs := by
  cases f <;> first | exact no_some e | skip
  exact isoV_e e (fun i r' e => onL_e e fun ws hl e => iff_e e fun m e => and_e m fun m1 m2 => bnd_e e fun p ec e => iff_e e fun hs e => k1 _ i ws r' p hl m1 m2 ec hs e) fun vs e => iff_e e fun m e => bnd_e e fun p ec e => k2 _ vs p m ec e
theorem isoOut_e {o : Bool} {v w : V} {h' H H' : MH} {P : V → MH → Prop} (e : isoOut o v h' H = some (w, H')) (k1 : atomV v = true → P v H) (k2 : ∀ j ws, v = .ref j → listAt h' j = some ws → allAtoms ws = true → (o && Nat.beq j 0) = false → P (.ref H.length) (H ++ [.list ws])) : P w H' := by
  have plain : (iff (atomV v) (some (v, H))) = some (w, H') → P w H' := fun e => iff_e e fun m e => pair_e e (k1 m)
  cases v <;> first | exact plain e | skip
  exact onL_e e fun ws hl e => iff_e e fun m e => iff_e e fun z e => pair_e e (k2 _ ws rfl hl m (neg_e z))

section
variable {X : Cx} {G : Gl} {C : Call} {d n : Nat} {md : Md} {A : Around} {ρ : List Addr} {H : MH} {s : Shared} {env : Env} {fr : Fr} {mg mb : Str → Option Value} {K : Frag} {Df : Defs}

theorem eqAtom_eq {v w : V} (h : eqAtom v w = true) : v = w := by
  cases v with
  | int x => cases w <;> first | exact congrArg V.int (of_decide_eq_true h) | exact nomatch (show false = true from h)
  | str x => cases w <;> first | exact congrArg V.str (of_decide_eq_true ((natsEq_eq _ _).symm.trans h)) | exact nomatch (show false = true from h)
  | _ => exact nomatch (show false = true from h)
theorem eqAtoms_eq {a b : List V} (h : eqAtoms a b = true) : a = b := by
  induction a generalizing b with
  | nil => cases b with
    | nil => rfl
    | cons => exact nomatch (show false = true from h)
  | cons v a ih => cases b with
    | nil => exact nomatch (show false = true from h)
    | cons w b => exact and_e (show (eqAtom v w && eqAtoms a b) = true from h) fun h1 h2 => by rw [eqAtom_eq h1, ih h2]
theorem VR.atom1 {h h' : Heap} {ρ ρ' : List Addr} {v : V} {c : Value} (e : atomB v = true) : VR X h ρ v c → VR X h' ρ' v c :=
  atomB_e (P := fun v => VR X h ρ v c → VR X h' ρ' v c) e (fun _ r => r) (fun _ _ r => r)
theorem VRs.atoms {h : Heap} {ρ ρ' : List Addr} {vs : List V} {cs : List Value} (e : allAtoms vs = true) (r : VRs X h ρ vs cs) (h' : Heap) : VRs X h' ρ' vs cs := by
  revert e
  exact VRs.ind (P := fun vs cs => allAtoms vs = true → VRs X h' ρ' vs cs) (fun e => rfl) (fun v c vs cs a ih e => and_e e fun e1 e2 => VRs.cons (VR.atom1 e1 a) (ih e2)) r
theorem VR.atom {h : Heap} {ρ ρ' : List Addr} {v : V} {c : Value} (e : atomV v = true) (r : VR X h ρ v c) : VR X h ρ' v c := by
  cases v with
  | tup vs => exact Exists.elim r fun a r => Exists.elim r fun it r => Exists.intro a ⟨it, r.1, r.2.1, VRs.atoms e r.2.2 h⟩
  | _ => first | exact r | exact nomatch (show false = true from e)
theorem VRs.atomAll {h : Heap} {ρ ρ' : List Addr} {vs : List V} {cs : List Value} (e : vs.all atomV = true) (r : VRs X h ρ vs cs) : VRs X h ρ' vs cs := by
  revert e
  exact VRs.ind (P := fun vs cs => vs.all atomV = true → VRs X h ρ' vs cs) (fun e => rfl) (fun v c vs cs a ih e => and_e e fun e1 e2 => VRs.cons (a.atom e1) (ih e2)) r
/-- fewer objects -/
theorem SOK.none' (S : SOK X ρ H s) : SOK X [] [] s := ⟨S.gens, S.os, S.base, S.tabs, rfl, .nil, (fun a m => nomatch m), fun i o a e => no_some e⟩
theorem SOK.one (S : SOK X ρ H s) {i : Nat} {a : Addr} {vs : List V} (ha : ρ[i]? = some a) (hl : listAt H i = some vs) (hv : allAtoms vs = true) : SOK X [a] [.list vs] s := by
  obtain ⟨items, k, g, r⟩ := S.obj i _ a (listAt_some hl) ha
  refine ⟨S.gens, S.os, S.base, S.tabs, rfl, List.pairwise_singleton _ _, fun b m => ?_, fun j o b e1 e2 => ?_⟩
  · rw [List.mem_singleton.mp m]; exact S.hi a (List.mem_of_getElem? ha)
  · cases j with
    | zero => cases e1; cases e2; exact ⟨items, k, g, r.atoms hv _⟩
    | succ j => exact no_some e1
/-- back to all objects -/
theorem back_none {ρ' : List Addr} {H' : MH} {s' : Shared} (S : SOK X ρ H s) (E : Ext X [] s.heap ρ' s'.heap) (S' : SOK X ρ' H' s') : SOK X ρ H s' ∧ Ext X ρ s.heap ρ s'.heap := by
  have M := (S.none').mono E
  have hk : ∀ b o, s.heap.get? b = some o → b ∉ X.TP → s'.heap.get? b = some o := fun b o e t => E.ch b o e (by simp) t
  refine ⟨⟨S'.gens, S'.os, S'.base, S'.tabs, S.len, S.nod, S.hi, fun i o a e1 e2 => ?_⟩, List.prefix_refl _, fun b o e _ t => hk b o e t, fun _ h1 h2 => absurd h1 h2⟩
  have hO := S.obj i o a e1 e2
  refine hO.mono M (List.prefix_refl _) fun x e => hk _ _ e fun m => ?_
  obtain ⟨t, h1, h2⟩ := List.mem_map.mp m
  obtain ⟨ps, _, h3, _⟩ := S.tabs t h1
  rw [h2] at h3
  exact hO.no_tab h3.2
theorem back_one {ρ' : List Addr} {H' : MH} {s' : Shared} {i : Nat} {a : Addr} {vs : List V} (S : SOK X ρ H s) (ha : ρ[i]? = some a) (hl : listAt H i = some vs) (hv : allAtoms vs = true) (E : Ext X [a] s.heap ρ' s'.heap) (S' : SOK X ρ' H' s') (h0 : listAt H' 0 = some vs) :
    SOK X ρ H s' ∧ Ext X ρ s.heap ρ s'.heap := by
  have M := (S.one ha hl hv).mono E
  have ma := List.mem_of_getElem? ha
  have hk : ∀ b o, s.heap.get? b = some o → b ≠ a → b ∉ X.TP → s'.heap.get? b = some o := fun b o e n t => E.ch b o e (by simpa using n) t
  refine ⟨⟨S'.gens, S'.os, S'.base, S'.tabs, S.len, S.nod, S.hi, fun j o b e1 e2 => ?_⟩, List.prefix_refl _, fun b o e n t => hk b o e (fun q => n (q ▸ ma)) t, fun _ h1 h2 => absurd h1 h2⟩
  by_cases q : b = a
  · subst q
    have := idx_inj S.nod ha e2
    subst this
    rw [listAt_some hl] at e1
    cases e1
    obtain ⟨items, k, g, r⟩ := S'.obj 0 _ b (listAt_some h0) (pre_get E.pre rfl)
    exact ⟨items, k, g, r.atoms hv _⟩
  · have hO := S.obj j o b e1 e2
    refine hO.mono M (List.prefix_refl _) fun x e => hk _ _ e q fun m => ?_
    obtain ⟨t, h1, h2⟩ := List.mem_map.mp m
    obtain ⟨ps, _, h3, _⟩ := S.tabs t h1
    rw [h2] at h3
    exact hO.no_tab h3.2
/-- one more list, taken over -/
theorem SOK.take {b : Addr} {items : List Value} {k : Nat} {ws : List V} {s' : Shared} (hS : SOK X ρ H s) (S2 : SOK X ρ H s') (E2 : Ext X ρ s.heap ρ s'.heap) (hn : s.heap.get? b = none) (hT : b ∉ X.TP) (hi : X.h₀.get? b = none) (g : s'.heap.get? b = some { cls := .type "list", data := .seq items.toArray k }) (rv : VRs X s'.heap (ρ ++ [b]) ws items) : EP X ρ s.heap (.ref H.length) (H ++ [.list ws]) (.ref b) s' := by
  have hbr : b ∉ ρ := fun m => Exists.elim (hS.mem m) fun x hx => no_some (hn.symm.trans hx.1)
  have p : ρ <+: ρ ++ [b] := List.prefix_append ..
  refine ⟨ρ ++ [b], ⟨p, fun x o e n t => E2.ch x o e n t, fun x m n => ?_⟩, ⟨S2.gens, S2.os, S2.base, S2.tabs, by simp [S2.len], ?_, ?_, fun i o x e1 e2 => ?_⟩, VR.ref (by rw [← S2.len, List.getElem?_append_right (Nat.le_refl _)]; simp)⟩
  · rcases List.mem_append.mp m with m | m
    · exact absurd m n
    · rw [List.mem_singleton] at m; rw [m]; exact ⟨hn, hT⟩
  · rw [List.nodup_append]
    exact ⟨S2.nod, List.pairwise_singleton _ _, fun x hx y hy q => hbr (by rw [List.mem_singleton] at hy; rw [← hy, ← q]; exact hx)⟩
  · intro x m
    rcases List.mem_append.mp m with m | m
    · exact S2.hi x m
    · rw [List.mem_singleton] at m; rw [m]; exact hi
  · by_cases hi : i < H.length
    · rw [List.getElem?_append_left hi] at e1
      rw [List.getElem?_append_left (by rw [S2.len]; exact hi)] at e2
      exact (S2.obj i o x e1 e2).mono (fun b o e _ => e) p (fun x e => e)
    · have hi := Nat.le_of_not_lt hi
      rw [List.getElem?_append_right hi] at e1
      rw [List.getElem?_append_right (by rw [S2.len]; exact hi), S2.len] at e2
      have hz : i - H.length = 0 := Nat.lt_one_iff.mp (List.getElem?_eq_some_iff.mp e1).1
      rw [hz] at e1 e2
      cases e1; cases e2
      exact ⟨items, k, g, rv⟩
theorem isoOut_ok {o : Bool} {v w : V} {h' H' : MH} {c : Value} {s' : Shared} {ρ0 ρ' : List Addr} (e : isoOut o v h' H = some (w, H')) (B : SOK X ρ H s' ∧ Ext X ρ s.heap ρ s'.heap) (E : Ext X ρ0 s.heap ρ' s'.heap) (S' : SOK X ρ' h' s') (r : VR X s'.heap ρ' v c)
    (hS : SOK X ρ H s) (h0 : ∀ b ∈ ρ0, o = true ∧ ρ'[0]? = some b) : EP X ρ s.heap w H' c s' := by
  refine isoOut_e (P := fun w H' => EP X ρ s.heap w H' c s') e (fun ha => ⟨ρ, B.2, B.1, r.atom ha⟩) fun j ws hv hw hat hj => ?_
  subst hv
  refine VR.ref_e r fun b hb => ?_
  obtain ⟨items, k, g, rv⟩ := S'.obj j _ b (listAt_some hw) hb
  have hb0 : b ∉ ρ0 := fun m => by
    have z := h0 b m
    rw [z.1, idx_inj S'.nod hb z.2] at hj
    exact nomatch hj
  have z := E.new b (List.mem_of_getElem? hb) hb0
  exact hS.take B.1 B.2 z.1 z.2 (S'.hi b (List.mem_of_getElem? hb)) g (rv.atoms hat _)
theorem isoC_ok (CO : CallOK X C d) : CallOK X (isoC C) d where
  run := by
    intro A ρ H s f vs v H' cf cs e R S rf rs
    refine isoC_e (P := fun f vs => VR X s.heap ρ f cf → VRs X s.heap ρ vs cs → wpAny (Mx X) A (call cf cs) (EP X ρ s.heap v H') No s) e (fun k i ws r' p hl hw hr ec hs e rf rs => ?_) (fun k vs p hv ec e rf rs => ?_) rf rs
    · refine VRs.cons_e rs fun c0 q r0 r1 => VR.ref_e r0 fun a ha => ?_
      have h0 : listAt p.2 0 = some ws := by
        unfold sameL at hs
        cases q : listAt p.2 0 with
        | none => rw [q] at hs; exact nomatch hs
        | some b => rw [q] at hs; exact and_e (show (allAtoms b && eqAtoms b ws) = true from hs) fun _ h => by rw [eqAtoms_eq h]
      exact wpAny_mono (CO.run (v := p.1) (H' := p.2) ec R (S.one ha hl hw) (show VR X s.heap [a] (.con k) cf from rf) (VRs.cons (VR.ref rfl) (VRs.atomAll hr r1))) (fun c s' h2 => Exists.elim h2 fun ρ' z =>
        isoOut_ok e (back_one S ha hl hw z.1 z.2.1 h0) z.1 z.2.1 z.2.2 S fun b m => ⟨rfl, (List.mem_singleton.mp m) ▸ pre_get z.1.pre rfl⟩) no_no
    · exact wpAny_mono (CO.run (v := p.1) (H' := p.2) ec R S.none' (show VR X s.heap [] (.con k) cf from rf) (VRs.atomAll hv rs)) (fun c s' h2 => Exists.elim h2 fun ρ' z => isoOut_ok e (back_none S z.1 z.2.1) z.1 z.2.1 z.2.2 S fun b m => nomatch m) no_no
  keep := by
    intro A ρ H s f vs r cf e R S rf
    refine isoC_e (P := fun f vs => VR X s.heap ρ f cf → wpAny (Mx X) A (keeperOf cf) (fun _ s' => Tok s s') No s) e (fun k i ws r' p hl hw hr ec hs e rf => ?_) (fun k vs p hv ec e rf => ?_) rf
    · exact Exists.elim (S.at' (listAt_some hl)) fun a z => CO.keep ec R (S.one z.1 hl hw) (show VR X s.heap [a] (.con k) cf from rf)
    · exact CO.keep ec R S.none' (show VR X s.heap [] (.con k) cf from rf)
end
end Rz
end Q28
section Q29
open PySem PySem.W PySem.Calls PyProof.Rows
namespace Rz
set_option linter.unusedVariables false
set_option linter.unusedSimpArgs false
set_option maxRecDepth 100000
noncomputable def pureK : List Nat := [12, 13, 14, 15, 16, 17, 23, 24, 26, 27, 28, 29]
noncomputable def memN : List Nat → Nat → Bool
  | [], _ => false
  | a :: r, x => match Nat.beq a x with
    | true => true
    | false => memN r x
noncomputable def stepI (G : Gl) (Df : Defs) (n : Nat) (C : Call) : Call := fun f vs H => vC (runK G Df C n f vs H) f (c := fun k => bif memN pureK k then isoC (runK G Df C n) f vs H else runK G Df C n f vs H)
theorem stepI_e {G : Gl} {Df : Defs} {n : Nat} {C : Call} {f : V} {vs : List V} {H : MH} {r : V × MH} {Q : Prop} (e : stepI G Df n C f vs H = some r) (k1 : isoC (runK G Df C n) f vs H = some r → Q) (k2 : runK G Df C n f vs H = some r → Q) : Q := by
  cases f <;> first | exact k2 e | exact bif_e e (fun _ e => k1 e) fun _ e => k2 e
noncomputable def iC (G : Gl) (Df : Defs) (n : Nat) (d : Nat) : Call := Nat.rec (fun _ _ _ => none) (fun _ ih => stepI G Df n ih) d
end Rz
end Q29
section Q30
open PySem PySem.W PySem.Calls PyProof.Rows
namespace Rz
set_option linter.unusedVariables false
set_option linter.unusedSimpArgs false
set_option maxRecDepth 100000

/-- the facts of the top -/
structure WOK (X : Cx) (G : Gl) (K : Frag) (Df : Defs) (mg mb : Str → Option Value) : Prop where
  xo : XOK X G mg mb
  no : NamesOK X
  ko : ClsOK X G K
  dfs : DefsOK X K Df
/-- a bound method that is called is a function -/
noncomputable def BmOK (X : Cx) (C : Call) : Prop := ∀ k i H r, C (.bm k i) [] H = some r → ∃ f fo fd, X.CV k = .ref f ∧ X.h₀.get? f = some fo ∧ fo.data = .func fd ∧ f ∉ X.TP

section
variable {X : Cx} {G : Gl} {C C' : Call} {d d' n : Nat} {mg mb : Str → Option Value} {K : Frag} {Df : Defs}

theorem CallOK.more (h : CallOK X C d) (hd : d ≤ d') : CallOK X C d' :=
  have hR : ∀ {A : Around}, Room A d' → Room A d := fun R => ⟨R.handled, by have := R.depth; (first | lia | omega), by have := R.units; (first | lia | omega)⟩
  ⟨fun e R S rf rs => h.run e (hR R) S rf rs, fun e R S rf => h.keep e (hR R) S rf⟩
theorem allOK (W : WOK X G K Df mg mb) (CO : CallOK X C d) (B : BmOK X C) : AllOK X G C (d + 1) mg mb where
  xo := W.xo
  no := W.no
  oo := ⟨fun e R S rs => itr_ok e S rs, fun e R S r => attr_ok W.ko e S r, fun e R S r rv => set_ok W.xo W.ko e S r rv, fun e R S r => mth_get W.ko e S r⟩
  co := CO.more (Nat.le_succ d)
  ci := cit_ok CO W.xo B
  ct := cit_iter
theorem stepI_ok (W : WOK X G K Df mg mb) (CO : CallOK X C d) (B : BmOK X C) : CallOK X (stepI G Df n C) (d + 3) ∧ BmOK X (stepI G Df n C) := by
  have R1 := runK_ok (n := n) (allOK W CO B) W.dfs W.ko
  have R2 := isoC_ok R1
  refine ⟨⟨fun e R S rf rs => stepI_e e (fun e => R2.run e R S rf rs) fun e => R1.run e R S rf rs, fun e R S rf => stepI_e e (fun e => R2.keep e R S rf) fun e => R1.keep e R S rf⟩, fun k i H r e => ?_⟩
  exact onL_e (show onL (Df.fn k) _ = some r from e) fun D hD e => by
    obtain ⟨md, F⟩ := W.dfs.fn k D hD
    obtain ⟨a, o, fd, h1, h2, h3, h4, _⟩ := F.ex
    exact ⟨a, o, fd, h1, h2, h4, h3⟩
theorem iC_ok (W : WOK X G K Df mg mb) (d : Nat) : CallOK X (iC G Df n d) (3 * d) ∧ BmOK X (iC G Df n d) := by
  induction d with
  | zero => exact ⟨⟨fun e => no_some e, fun e => no_some e⟩, fun k i H r e => no_some e⟩
  | succ d ih => exact stepI_ok (n := n) W ih.1 ih.2
end
end Rz
end Q30
section Q31
open PySem PySem.W PySem.Calls PyProof.Rows
namespace Rz
set_option linter.unusedVariables false
set_option linter.unusedSimpArgs false
set_option maxRecDepth 100000

/-! the facts of the top, told by a test of its heap -/
theorem onSm_e {α : Type} {o : Option α} {f : α → Bool} {Q : Prop} (m : onSm o false f = true) (k : ∀ a, o = some a → f a = true → Q) : Q := by
  cases o with
  | none => exact nomatch (show false = true from m)
  | some a => exact k a rfl m
theorem dat_di {x : Data} {f : Array DictEntry → Bool} {Q : Prop} (m : datC false x (di := f) = true) (k : ∀ es n, x = .dict es n → f es = true → Q) : Q := by
  cases x <;> first | exact nomatch (show false = true from m) | exact k _ _ rfl m
theorem dat_fu {x : Data} {f : FuncData → Bool} {Q : Prop} (m : datC false x (fu := f) = true) (k : ∀ fd, x = .func fd → f fd = true → Q) : Q := by
  cases x <;> first | exact nomatch (show false = true from m) | exact k _ rfl m
theorem dat_fi {x : Data} {f : Array Value → Bool} {Q : Prop} (m : datC false x (fi := f) = true) (k : ∀ vs, x = .fields vs → f vs = true → Q) : Q := by
  cases x <;> first | exact nomatch (show false = true from m) | exact k _ rfl m
theorem dat_p {x : Data} {f : Bool} {Q : Prop} (m : datC false x (p := f) = true) (k : x = .plain → f = true → Q) : Q := by
  cases x <;> first | exact nomatch (show false = true from m) | exact k rfl m
theorem val_s {v : Value} {f : Str → Bool} {Q : Prop} (m : valC false v (s := f) = true) (k : ∀ x t, v = .str x t → f x = true → Q) : Q := by
  cases v <;> first | exact nomatch (show false = true from m) | exact k _ _ rfl m
theorem val_i {v : Value} {f : Int → Bool} {Q : Prop} (m : valC false v (i := f) = true) (k : ∀ x t, v = .int x t → f x = true → Q) : Q := by
  cases v <;> first | exact nomatch (show false = true from m) | exact k _ _ rfl m
theorem val_b {v : Value} {f : Bool → Bool} {Q : Prop} (m : valC false v (b := f) = true) (k : ∀ x, v = .bool x → f x = true → Q) : Q := by
  cases v <;> first | exact nomatch (show false = true from m) | exact k _ rfl m
noncomputable def dictAt (h : Heap) (a : Addr) : Array DictEntry := onSm (h.get? a) #[] fun o => datC #[] o.data (di := fun es => es)
noncomputable def nsChk (h : Heap) (a : Addr) : Bool := onSm (h.get? a) false fun o => datC false o.data (di := fun es => es.toList.all fun e => valC false e.key (s := fun z => true))
theorem nsChk_ok {h : Heap} {a : Addr} (e : nsChk h a = true) : h.Ns a (nsFind (dictAt h a)) :=
  onSm_e e fun o ho e => dat_di e fun es ep hd e => ⟨o, es, ep, ho, hd, fun x hx => val_s (List.all_eq_true.mp e x (Array.mem_toList_iff.mpr hx)) fun n t hk _ => ⟨n, t, hk⟩, fun x => congrArg (nsFind · x) ((by unfold dictAt; rw [ho]; exact congrArg (datC #[] · (di := fun es => es)) hd) : dictAt h a = es).symm⟩
noncomputable def mgOf (h : Heap) : Str → Option Value := nsFind (dictAt h mainGlobals)
noncomputable def mbOf (h : Heap) : Str → Option Value := nsFind (dictAt h builtinsNs)
noncomputable def refOf (o : Option Value) : Option Addr := onL o refV
noncomputable def clsOf (h : Heap) (c : Nat) : Addr := onSm (refOf (mgOf h (NM (18 + c)))) 0 fun a => a
noncomputable def codeOf (h : Heap) (a : Addr) : Option (Addr × FuncData) := onL (h.get? a) fun o => datC none o.data (fu := fun fd => onL (refV fd.code) fun c => some (c, fd))
noncomputable def placesOf (h : Heap) (c : Addr) : Option Addr := onL (h.get? c) fun o => datC none o.data (fi := fun vs => refOf vs[11]?)
noncomputable def tabOf (h : Heap) (fk k : Nat) : Option Tab := onL (cloAt k) fun q => onL (refOf (mgOf h (NM fk))) fun a => onL (codeOf h a) fun z => onL (placesOf h z.1) fun P => some ⟨P, z.1, k, q.2.2.1, q.2.2.2, (z.2.qualname ++ ".<locals>.") ++ Str.ofString q.2.1⟩
noncomputable def tabsOf (h : Heap) : List Tab := [(14, 500), (15, 501), (25, 502)].filterMap fun p => tabOf h p.1 p.2
noncomputable def tpOf (h : Heap) : List Addr := (tabsOf h).map (·.P)
noncomputable def fragOf (h : Heap) (tp : List Addr) : List Nat → Frag
  | [] => []
  | a :: r => bif tp.contains a then fragOf h tp r else onSm (h.get? a) (fragOf h tp r) fun o => (a, o) :: fragOf h tp r
noncomputable def KK (h : Heap) : Frag := fragOf h (tpOf h) (List.range h.objs.size)
theorem frag_ok {h : Heap} {tp : List Addr} {a : Addr} {o : Obj} {l : List Nat} (e : (fragOf h tp l).lookup a = some o) : h.get? a = some o ∧ a ∉ tp := by
  induction l with
  | nil => exact no_some e
  | cons b r ih =>
    have e : (bif tp.contains b then fragOf h tp r else onSm (h.get? b) (fragOf h tp r) fun o => (b, o) :: fragOf h tp r).lookup a = some o := e
    cases hc : tp.contains b with
    | true => rw [hc] at e; exact ih e
    | false =>
      rw [hc] at e
      cases hx : h.get? b with
      | none => rw [hx] at e; exact ih e
      | some x =>
        rw [hx] at e
        have e : ((b, x) :: fragOf h tp r).lookup a = some o := e
        rw [List.lookup_cons] at e
        cases q : a == b with
        | true =>
          rw [q] at e
          have hb := eq_of_beq q
          rw [hb]
          exact some_e (P := fun o => h.get? b = some o ∧ b ∉ tp) (show some x = some o from e) ⟨hx, fun m => nomatch (hc.symm.trans (List.contains_iff_mem.mpr m))⟩
        | false => rw [q] at e; exact ih e
noncomputable def valOf (h : Heap) (k : Nat) : Option Value := onSm (mkT.find? fun p => Nat.beq p.2.2 k) (mgOf h (NM k)) fun p => onSm (findIn (KK h) (.ref (clsOf h p.1)) (NM p.2.1)) none fun v => v
noncomputable def cvOf (h : Heap) (k : Nat) : Value := onSm (refOf (valOf h k)) .none fun a => .ref a
noncomputable def mkX (w : World) (h : Heap) (os : OsState) : Cx where
  prog := prog
  w := w
  h₀ := h
  tabs := tabsOf h
  NM := NM
  CV := cvOf h
  CL := clsOf h
  os := os
  mdd := mdd
  fv := fvOf

/-! the tests -/
noncomputable def isSV (o : Option Value) : Bool := onSm o false fun v => valC false v (s := fun z => true)
noncomputable def isIntV (o : Option Value) : Bool := onSm o false fun v => valC false v (i := fun z => true)
noncomputable def isBoolV (o : Option Value) : Bool := onSm o false fun v => valC false v (b := fun z => true)
noncomputable def chkTab (h : Heap) (t : Tab) : Bool := onSm (h.get? t.c) false (fun o => decide (o.cls = .type "code") && datC false o.data (fi := fun vs => decide (vs[11]? = some (.ref t.P)) && isSV vs[18]? && isIntV vs[7]? && isBoolV vs[9]? && isIntV vs[10]?)) &&
  onSm (h.get? t.P) false (fun o => decide (o.cls = .none) && o.dict.isNone && o.slots.toList.isEmpty && datC false o.data (fi := fun ps => ps.toList.isEmpty)) && !(tpOf h).contains t.c && !Nat.beq t.c t.P
noncomputable def chkMade (h : Heap) (fd : FuncData) (k : Nat) : Bool := onSm (cloAt k) false fun q => (tabsOf h).any fun t => decide (fd.code = .ref t.c) && Nat.beq t.line q.2.2.1 && Nat.beq t.col q.2.2.2 && decide (t.q = (fd.qualname ++ ".<locals>.") ++ Str.ofString q.2.1)
noncomputable def chkCode (h : Heap) (qn : Str) (c : Addr) : Bool := onSm (h.get? c) false fun oc => decide (oc.cls = .type "code") && !(tpOf h).contains c && datC false oc.data (fi := fun vs => onSm (vs[1]? : Option Value) false fun v => valC false v (s := fun q => decide (q = qn)))
noncomputable def chkFn (h : Heap) (k : Nat) (D : MDef) (made : List Nat) : Bool := onSm (refOf (valOf h k)) false fun a => onSm (h.get? a) false fun o => datC false o.data (fu := fun fd => !(tpOf h).contains a && mDef NM (mdOf made) D fd.params fd.body fd.scope && decide (fd.globals = mainGlobals) && decide (fd.builtins = builtinsNs) && decide (fd.defaults = .none) && D.fv.isEmpty &&
          onSm (refV fd.code) false (chkCode h fd.qualname) && made.all (chkMade h fd))
noncomputable def chkCls (h : Heap) (c : Nat) : Bool := decide (findIn (KK h) (.ref (clsOf h c)) "__getattribute__" = some (some (.builtin "object.__getattribute__"))) && decide (findIn (KK h) (.ref (clsOf h c)) "__getattr__" = some none) &&
  hasDictIn (KK h) (clsOf h c) && decide (findIn (KK h) (.ref (clsOf h c)) "__setattr__" = some (some (.builtin "object.__setattr__"))) && plainOver (KK h) (clsOf h c) && makesIn (KK h) (clsOf h c) && decide (cvOf h (18 + c) = .ref (clsOf h c))
noncomputable def chkM (h : Heap) (p : Nat × Nat × Nat) : Bool := onSm (refOf (valOf h p.2.2)) false fun f => decide (findIn (KK h) (.ref (clsOf h p.1)) (NM p.2.1) = some (some (.ref f))) && decide (typeIn (KK h) (.ref f) = some (.type "function")) && decide (specialIn (KK h) (.ref f) "__get__" = some (some (.builtin "function.__get__"))) &&
      decide (takesIn (KK h) (.ref f) = some false) && !copiedNames.contains (NM p.2.1)
noncomputable def chkA (h : Heap) (p : Nat × Nat × V) : Bool := onSm (refOf (valOf h p.1)) false fun C => readsIn (KK h) C (.type "type") && onSm (findCls (KK h) (.ref C) (.type "type") (NM p.2.1)) false fun r => match r with
    | .val v => vC false p.2.2 (s := fun s => valC false v (s := fun x => decide (x.cps.toList = s)))
    | _ => false
noncomputable def chkG (h : Heap) (p : Nat × V) : Bool := vC false p.2 (i := fun i => onSm (mgOf h (NM p.1)) false fun v => valC false v (i := fun j => decide (i = j))) (c := fun k => Nat.beq k p.1 && (refOf (mgOf h (NM p.1))).isSome && decide (valOf h k = mgOf h (NM k)))
noncomputable def allPrims : List Prim := [.len, .divmod, .rev, .range, .iter, .sum, .min, .max, .sorted, .tuple, .list]
noncomputable def chkP (h : Heap) (p : Prim) : Bool := decide (mgOf h (primName p) = none) && decide (mbOf h (primName p) = some (primVal p))
noncomputable def chkB (h : Heap) : Bool := onSm (refOf (mgOf h "__builtins__")) false fun bm => !Nat.beq bm builtinsNs && !(tpOf h).contains bm && onSm (h.get? bm) false fun o => datC false o.data (p := decide (o.cls = .type "module") && decide (o.dict = some builtinsNs))
noncomputable def chk (h : Heap) : Bool := nsChk h mainGlobals && nsChk h builtinsNs && nsChk h cStatics && decide (nsFind (dictAt h cStatics) "sys.recursionlimit" = none) &&
  !(tpOf h).contains mainGlobals && !(tpOf h).contains builtinsNs && !(tpOf h).contains cStatics && (tabsOf h).all (chkTab h) && distinct (tpOf h) && chkB h && allPrims.all (chkP h) && gT.all (chkG h) &&
  fnT.all (fun p => chkFn h p.1 p.2.1 p.2.2) && chkCls h 0 && chkCls h 1 && mkT.all (chkM h) && aT.all (chkA h) && datT.all (fun p => decide (findIn (KK h) (.ref (clsOf h p.1)) (NM p.2) = some none) && Nat.ble p.1 1)
end Rz
end Q31
section Q32
open PySem PySem.W PySem.Calls PyProof.Rows
namespace Rz
set_option linter.unusedVariables false
set_option linter.unusedSimpArgs false
set_option maxRecDepth 100000

section
variable {w : World} {h : Heap} {os : OsState}

theorem refV_some {v : Value} {a : Addr} (e : refV v = some a) : v = .ref a := by
  cases v <;> first | exact no_some e | exact congrArg PySem.Value.ref (Option.some.inj e)
theorem refOf_some {v : Option Value} {a : Addr} (e : refOf v = some a) : v = some (.ref a) := onL_e e fun x hx e => hx.trans (congrArg some (refV_some e))
theorem mem_not {tp : List Addr} {a : Addr} (e : (!tp.contains a) = true) : a ∉ tp := fun m => nomatch ((neg_e e).symm.trans (List.contains_iff_mem.mpr m))

/-! names -/
theorem nm_some {i : Nat} {s : Str} (h : nmT[i]? = some s) : NM i = s := by unfold NM; rw [h]; rfl
theorem nm_none {i : Nat} (h : nmT[i]? = none) : NM i = ⟨(List.replicate (i + 100) 63).toArray⟩ := by unfold NM; rw [h]; rfl
theorem nm_len : (nmT.all fun s => Nat.ble s.cps.size 60) = true := by kernel_rfl
noncomputable def distS : List Str → Bool
  | [] => true
  | s :: r => !r.contains s && distS r
theorem nm_dist : distS nmT = true := by kernel_rfl
theorem mem_notS {r : List Str} {a : Str} (e : (!r.contains a) = true) : a ∉ r := fun m => nomatch ((neg_e e).symm.trans (List.contains_iff_mem.mpr m))
theorem distS_inj {l : List Str} (hd : distS l = true) : ∀ {i j : Nat} {s : Str}, l[i]? = some s → l[j]? = some s → i = j := by
  induction l with
  | nil => exact fun e => no_some e
  | cons a r ih =>
    intro i j s e1 e2
    refine and_e hd fun hn hd => ?_
    cases i with
    | zero => cases j with
      | zero => rfl
      | succ j => cases e1; exact absurd (List.mem_of_getElem? (show r[j]? = some a from e2)) (mem_notS hn)
    | succ i => cases j with
      | zero => cases e2; exact absurd (List.mem_of_getElem? (show r[i]? = some a from e1)) (mem_notS hn)
      | succ j => exact congrArg Nat.succ (ih hd (s := s) e1 e2)
theorem NM_inj : ∀ x y, NM x = NM y → x = y := by
  intro x y e
  have short : ∀ {i : Nat} {s : Str}, nmT[i]? = some s → s.cps.size ≤ 60 := fun hi => Nat.le_of_ble_eq_true (List.all_eq_true.mp nm_len _ (List.mem_of_getElem? hi))
  cases hx : nmT[x]? with
  | some s =>
    cases hy : nmT[y]? with
    | some t =>
      rw [nm_some hx, nm_some hy] at e
      subst e
      exact distS_inj nm_dist hx hy
    | none =>
      rw [nm_some hx, nm_none hy] at e
      have := short hx
      rw [e] at this
      simp at this
      try (first | lia | omega)
  | none =>
    cases hy : nmT[y]? with
    | some t =>
      rw [nm_none hx, nm_some hy] at e
      have := short hy
      rw [← e] at this
      simp at this
      try (first | lia | omega)
    | none =>
      rw [nm_none hx, nm_none hy] at e
      have := congrArg (fun s : Str => s.cps.size) e
      simp at this
      exact this
theorem names_ok : NamesOK (mkX w h os) where
  n1 := (nm_some (by kernel_rfl) : NM 1 = Str.ofString "append")
  n2 := (nm_some (by kernel_rfl) : NM 2 = Str.ofString "pop")
  n3 := (nm_some (by kernel_rfl) : NM 3 = Str.ofString "reverse")
  n4 := (nm_some (by kernel_rfl) : NM 4 = Str.ofString "lower")
  n5 := (nm_some (by kernel_rfl) : NM 5 = Str.ofString "join")
  n6 := (nm_some (by kernel_rfl) : NM 6 = Str.ofString "count")
  n7 := (nm_some (by kernel_rfl) : NM 7 = Str.ofString "index")
  n8 := (nm_some (by kernel_rfl) : NM 8 = Str.ofString "bit_length")

/-- the test's parts -/
structure Chk (h : Heap) : Prop where
  g : nsChk h mainGlobals = true
  b : nsChk h builtinsNs = true
  s : nsChk h cStatics = true
  l : nsFind (dictAt h cStatics) "sys.recursionlimit" = none
  tg : mainGlobals ∉ tpOf h
  tb : builtinsNs ∉ tpOf h
  ts : cStatics ∉ tpOf h
  tabs : ∀ t ∈ tabsOf h, chkTab h t = true
  dist : (tpOf h).Nodup
  bm : chkB h = true
  prims : ∀ p, chkP h p = true
  gT : ∀ p ∈ gT, chkG h p = true
  fn : ∀ p ∈ fnT, chkFn h p.1 p.2.1 p.2.2 = true
  c0 : chkCls h 0 = true
  c1 : chkCls h 1 = true
  m : ∀ p ∈ mkT, chkM h p = true
  a : ∀ p ∈ aT, chkA h p = true
  dat : ∀ p ∈ datT, findIn (KK h) (.ref (clsOf h p.1)) (NM p.2) = some none ∧ p.1 ≤ 1
theorem chk_parts (e : chk h = true) : Chk h :=
  and_e e fun e e18 => and_e e fun e e17 => and_e e fun e e16 => and_e e fun e e15 => and_e e fun e e14 => and_e e fun e e13 => and_e e fun e e12 => and_e e fun e e11 => and_e e fun e e10 => and_e e fun e e9 => and_e e fun e e8 => and_e e fun e e7 => and_e e fun e e6 => and_e e fun e e5 => and_e e fun e e4 => and_e e fun e e3 => and_e e fun e1 e2 =>
  ⟨e1, e2, e3, of_decide_eq_true e4, mem_not e5, mem_not e6, mem_not e7, List.all_eq_true.mp e8, distinct_nodup e9, e10, fun p => List.all_eq_true.mp e11 p (by cases p <;> simp [allPrims]), List.all_eq_true.mp e12, List.all_eq_true.mp e13, e14, e15, List.all_eq_true.mp e16, List.all_eq_true.mp e17, fun p hp => and_e (List.all_eq_true.mp e18 p hp) fun a b => ⟨of_decide_eq_true a, Nat.le_of_ble_eq_true b⟩⟩
end
end Rz
end Q32
section Q33
open PySem PySem.W PySem.Calls PyProof.Rows
namespace Rz
set_option linter.unusedVariables false
set_option linter.unusedSimpArgs false
set_option maxRecDepth 100000

section
variable {w : World} {h : Heap} {os : OsState}

theorem lk_mem {α : Type} {l : List (Nat × α)} {x : Nat} {v : α} (e : lk l x = some v) : (x, v) ∈ l := by
  induction l with
  | nil => exact no_some e
  | cons p r ih =>
    obtain ⟨k, u⟩ := p
    rw [lk_cons] at e
    by_cases q : k = x
    · rw [if_pos q] at e
      rw [q, Option.some.inj e]
      exact List.mem_cons_self ..
    · rw [if_neg q] at e
      exact List.mem_cons_of_mem _ (ih e)
theorem find2_mem {α : Type} {l : List (Nat × Nat × α)} {x y : Nat} {v : α} (e : find2 l x y = some v) : (x, y, v) ∈ l := by
  induction l with
  | nil => exact no_some e
  | cons p r ih =>
    obtain ⟨a, b, u⟩ := p
    exact bif_e e (fun q e => and_e q fun q1 q2 => by rw [← Nat.eq_of_beq_eq_true q1, ← Nat.eq_of_beq_eq_true q2, ← Option.some.inj e]; exact List.mem_cons_self ..) fun q e => List.mem_cons_of_mem _ (ih e)
theorem datAt_mem {l : List (Nat × Nat)} {x y : Nat} (e : datAt l x y = true) : (x, y) ∈ l := by
  induction l with
  | nil => exact nomatch (show false = true from e)
  | cons p r ih =>
    obtain ⟨a, b⟩ := p
    exact bif_e e (fun q e => and_e q fun q1 q2 => by rw [← Nat.eq_of_beq_eq_true q1, ← Nat.eq_of_beq_eq_true q2]; exact List.mem_cons_self ..) fun q e => List.mem_cons_of_mem _ (ih e)
theorem cv_of {k : Nat} {a : Addr} (e : refOf (valOf h k) = some a) : cvOf h k = .ref a := by unfold cvOf; rw [e]; rfl
structure TabT (h : Heap) (t : Tab) (o : Obj) (vs : Array Value) : Prop where
  h1 : h.get? t.c = some o
  h2 : o.cls = .type "code"
  h3 : o.data = .fields vs
  h4 : vs[11]? = some (.ref t.P)
  h5 : isSV vs[18]? = true
  h6 : isIntV vs[7]? = true
  h7 : isBoolV vs[9]? = true
  h8 : isIntV vs[10]? = true
  h9 : h.get? t.P = some { cls := .none, data := .fields #[] }
  h10 : t.c ∉ tpOf h
  h11 : t.c ≠ t.P
theorem tab_obj {o : Obj} (e : (decide (o.cls = .none) && o.dict.isNone && o.slots.toList.isEmpty && datC false o.data (fi := fun ps => ps.toList.isEmpty)) = true) : o = { cls := .none, data := .fields #[] } := by
  obtain ⟨c, d, x, sl⟩ := o
  refine and_e e fun e e4 => and_e e fun e e3 => and_e e fun e1 e2 => dat_fi e4 fun ps hx e4 => ?_
  have q1 : c = .none := of_decide_eq_true e1
  have q2 : d = none := Option.isNone_iff_eq_none.mp e2
  have q3 : sl = #[] := Array.toList_eq_nil_iff.mp (List.isEmpty_iff.mp e3)
  have q4 : ps = #[] := Array.toList_eq_nil_iff.mp (List.isEmpty_iff.mp e4)
  have q5 : x = .fields ps := hx
  rw [q1, q2, q3, q5, q4]
theorem tab_parts {t : Tab} (e : chkTab h t = true) : ∃ o vs, TabT h t o vs :=
  and_e e fun e e4 => and_e e fun e e3 => and_e e fun e1 e2 => onSm_e e1 fun o ho e1 => and_e e1 fun g1 g2 => dat_fi g2 fun vs hd g => and_e g fun g g5 => and_e g fun g g4 => and_e g fun g g3 => and_e g fun g1' g2 => onSm_e e2 fun p hp e2 =>
    ⟨o, vs, ho, of_decide_eq_true g1, hd, of_decide_eq_true g1', g2, g3, g4, g5, hp.trans (congrArg some (tab_obj e2)), mem_not e3, fun q => by rw [q, Nat.beq_refl] at e4; exact nomatch e4⟩
theorem isSV_some {v : Option Value} (e : isSV v = true) : ∃ s t, v.getD .none = .str s t := onSm_e e fun x hx e => val_s e fun s t q _ => ⟨s, t, by rw [hx]; exact q⟩
theorem isIntV_some {v : Option Value} (e : isIntV v = true) : ∃ s t, v.getD .none = .int s t := onSm_e e fun x hx e => val_i e fun s t q _ => ⟨s, t, by rw [hx]; exact q⟩
theorem isBoolV_some {v : Option Value} (e : isBoolV v = true) : ∃ s, v.getD .none = .bool s := onSm_e e fun x hx e => val_b e fun s q _ => ⟨s, by rw [hx]; exact q⟩
theorem tabs_ok (C : Chk h) : TabsOK (mkX w h os) h := by
  intro t ht
  obtain ⟨o, vs, T⟩ := tab_parts (C.tabs t ht)
  obtain ⟨s1, t1, q1⟩ := isSV_some T.h5
  obtain ⟨s2, t2, q2⟩ := isIntV_some T.h6
  obtain ⟨s3, q3⟩ := isBoolV_some T.h7
  obtain ⟨s4, t4, q4⟩ := isIntV_some T.h8
  refine ⟨#[], ⟨o, vs, s1, t1, s2, t2, s3, s4, t4, _, T.h1, T.h3, ?_, ?_, ?_, ?_, ?_, T.h9, rfl, trivial, T.h11⟩, ⟨⟨o, vs, T.h1, T.h2, T.h3, T.h4⟩, T.h9⟩, .inl rfl⟩
  · rw [Array.getD_eq_getD_getElem?, T.h4]; rfl
  · rw [Array.getD_eq_getD_getElem?]; exact q1
  · rw [Array.getD_eq_getD_getElem?]; exact q2
  · rw [Array.getD_eq_getD_getElem?]; exact q3
  · rw [Array.getD_eq_getD_getElem?]; exact q4
theorem nodup_map {α β : Type} {f : α → β} {l : List α} (nd : (l.map f).Nodup) : ∀ a ∈ l, ∀ b ∈ l, f a = f b → a = b := by
  induction l with
  | nil => exact fun a ha => nomatch ha
  | cons x r ih =>
    obtain ⟨n1, n2⟩ := List.nodup_cons.mp nd
    intro a ha b hb e
    rcases List.mem_cons.mp ha with ha' | ha'
    · rcases List.mem_cons.mp hb with hb' | hb'
      · rw [ha', hb']
      · rw [ha'] at e; exact absurd (e ▸ List.mem_map_of_mem hb') n1
    · rcases List.mem_cons.mp hb with hb' | hb'
      · rw [hb'] at e; exact absurd (e ▸ List.mem_map_of_mem ha') n1
      · exact ih n2 a ha' b hb' e
theorem glb_at (C : Chk h) {x : Nat} {v : V} (hc : chkG h (x, v) = true) : ∃ c, (mgOf h (NM x) = some c ∨ (mgOf h (NM x) = none ∧ mbOf h (NM x) = some c)) ∧ ∀ h' ρ, VR (mkX w h os) h' ρ v c := by
  cases v <;> first | exact nomatch (show false = true from hc) | skip
  · exact onSm_e hc fun u hu hc => val_i hc fun j t q hc => ⟨.int j t, .inl (hu.trans (congrArg some q)), fun h' ρ => Exists.intro t (by rw [of_decide_eq_true hc])⟩
  · refine and_e hc fun hc h3 => and_e hc fun h1 h2 => Exists.elim (Option.isSome_iff_exists.mp h2) fun a ha => ⟨.ref a, .inl (refOf_some ha), fun h' ρ => ?_⟩
    rw [Nat.eq_of_beq_eq_true h1]
    refine (cv_of ?_).symm
    rw [← Nat.eq_of_beq_eq_true h1, of_decide_eq_true h3, Nat.eq_of_beq_eq_true h1]
    exact ha
theorem bat_at (hc : chkB h = true) : ∃ bm o, mgOf h "__builtins__" = some (.ref bm) ∧ bm ≠ builtinsNs ∧ h.get? bm = some o ∧ o.cls = .type "module" ∧ o.dict = some builtinsNs ∧ o.data = .plain ∧ bm ∉ tpOf h :=
  onSm_e hc fun bm hbm hc => and_e hc fun hc h3 => and_e hc fun h1 h2 => onSm_e h3 fun o ho h3 => dat_p h3 fun hd h3 => and_e h3 fun g1 g2 =>
    ⟨bm, o, refOf_some hbm, fun q => (by rw [q, Nat.beq_refl] at h1; exact nomatch h1), ho, of_decide_eq_true g1, of_decide_eq_true g2, hd, mem_not h2⟩
theorem xok (C : Chk h) : XOK (mkX w h os) GG (mgOf h) (mbOf h) where
  codes := fun t ht => Exists.elim (tab_parts (C.tabs t ht)) fun o q => Exists.elim q fun vs T => ⟨⟨o, T.h1⟩, T.h10⟩
  g := nsChk_ok C.g
  gT := C.tg
  b := nsChk_ok C.b
  bT := C.tb
  lim := ⟨_, nsChk_ok C.s, C.l⟩
  limT := C.ts
  inj := NM_inj
  glb := fun x v e => glb_at C (C.gT _ (lk_mem e))
  bat := bat_at C.bm
  dist := fun t ht t' ht' e => nodup_map C.dist t ht t' ht' e
  prim := fun p => and_e (C.prims p) fun a b => ⟨of_decide_eq_true a, of_decide_eq_true b⟩
structure ClsT (h : Heap) (c : Nat) : Prop where
  h1 : findIn (KK h) (.ref (clsOf h c)) "__getattribute__" = some (some (.builtin "object.__getattribute__"))
  h2 : findIn (KK h) (.ref (clsOf h c)) "__getattr__" = some none
  h3 : hasDictIn (KK h) (clsOf h c) = true
  h4 : findIn (KK h) (.ref (clsOf h c)) "__setattr__" = some (some (.builtin "object.__setattr__"))
  h5 : plainOver (KK h) (clsOf h c) = true
  h6 : makesIn (KK h) (clsOf h c) = true
  h7 : cvOf h (18 + c) = .ref (clsOf h c)
theorem cls_parts {c : Nat} (e : chkCls h c = true) : ClsT h c :=
  and_e e fun e e7 => and_e e fun e e6 => and_e e fun e e5 => and_e e fun e e4 => and_e e fun e e3 => and_e e fun e1 e2 => ⟨of_decide_eq_true e1, of_decide_eq_true e2, e3, of_decide_eq_true e4, e5, e6, of_decide_eq_true e7⟩
theorem mk_le : (mkT.all fun p => Nat.ble p.1 1) = true := by kernel_rfl
theorem le_one {c : Nat} (C : Chk h) (hc : c ≤ 1) : chkCls h c = true := by
  cases c with
  | zero => exact C.c0
  | succ c => cases c with
    | zero => exact C.c1
    | succ c => (first | lia | omega)
theorem m_parts {p : Nat × Nat × Nat} (e : chkM h p = true) : ∃ f, cvOf h p.2.2 = .ref f ∧ findIn (KK h) (.ref (clsOf h p.1)) (NM p.2.1) = some (some (.ref f)) ∧ typeIn (KK h) (.ref f) = some (.type "function") ∧ specialIn (KK h) (.ref f) "__get__" = some (some (.builtin "function.__get__")) ∧
    takesIn (KK h) (.ref f) = some false ∧ copiedNames.contains (NM p.2.1) = false :=
  onSm_e e fun f hf e => and_e e fun e e5 => and_e e fun e e4 => and_e e fun e e3 => and_e e fun e1 e2 => ⟨f, cv_of hf, of_decide_eq_true e1, of_decide_eq_true e2, of_decide_eq_true e3, of_decide_eq_true e4, neg_e e5⟩
theorem ca_at {k n : Nat} {v : V} (e : chkA h (k, n, v) = true) : ∃ C mc c, cvOf h k = .ref C ∧ readsIn (KK h) C mc = true ∧ findCls (KK h) (.ref C) mc (NM n) = some (.val c) ∧ handedIn c = true ∧ ∀ h' ρ, VR (mkX w h os) h' ρ v c := by
  refine onSm_e e fun Ca hC e => and_e e fun h1 h2 => onSm_e h2 fun r hr h2 => ?_
  cases r with
  | val c =>
    cases v <;> first | exact nomatch (show false = true from h2) | skip
    refine val_s h2 fun x t q h2 => ?_
    subst q
    exact dec_e (a := x.cps.toList) h2 ⟨Ca, _, _, cv_of hC, h1, hr, rfl, fun h' ρ => Exists.intro t rfl⟩
  | _ => exact nomatch (show false = true from h2)
theorem clsok (C : Chk h) : ClsOK (mkX w h os) GG (KK h) where
  inn := fun a o e => (frag_ok e).1
  notT := fun a o e => (frag_ok e).2
  hand := fun k => by
    show handedIn (cvOf h k) = true
    unfold cvOf
    cases refOf (valOf h k) <;> rfl
  ga := fun c n e => by
    have T := cls_parts (le_one C (e.elim (fun e => (C.dat _ (datAt_mem e)).2) fun e => Exists.elim (Option.isSome_iff_exists.mp e) fun k hk => Nat.le_of_ble_eq_true (List.all_eq_true.mp mk_le _ (find2_mem hk))))
    exact ⟨T.h1, T.h2, T.h3, T.h4, T.h5⟩
  dat := fun c n e => (C.dat _ (datAt_mem e)).1
  m := fun c n k e => m_parts (C.m _ (find2_mem e))
  ca := fun k n v e => ca_at (C.a _ (find2_mem e))
theorem made_at {made : List Nat} {fd : FuncData} {k : Nat} {nm : Str} {pos : Pos} {args : Arguments} {body : FuncBody} {sc : Scope} (e8 : made.all (chkMade h fd) = true) (hm : mdOf made k nm pos args body sc = true) :
    mdd k args body sc = true ∧ freesIn NM sc.names (fvOf k) = true ∧ ∃ t ∈ tabsOf h, fd.code = .ref t.c ∧ t.line = pos.line ∧ t.col = pos.col ∧ t.q = (fd.qualname ++ ".<locals>.") ++ nm := by
  refine and_e hm fun hm m4 => and_e hm fun hm m3 => and_e hm fun m1 m2 => ⟨m3, m4, ?_⟩
  refine onSm_e m2 fun q hq m2 => and_e m2 fun m2 n3 => and_e m2 fun n1 n2 => onSm_e (List.all_eq_true.mp e8 k (List.contains_iff_mem.mp m1)) fun q' hq' hk => ?_
  obtain ⟨t, ht, hk⟩ := List.any_eq_true.mp hk
  cases hq.symm.trans hq'
  exact and_e hk fun hk k4 => and_e hk fun hk k3 => and_e hk fun k1 k2 => ⟨t, ht, of_decide_eq_true k1, (Nat.eq_of_beq_eq_true k2).trans (eq_of_beq n2), (Nat.eq_of_beq_eq_true k3).trans (eq_of_beq n3), (of_decide_eq_true k4).trans (by rw [eq_of_beq n1])⟩
theorem fn_parts {k : Nat} {D : MDef} {made : List Nat} (e : chkFn h k D made = true) : FunOK (mkX w h os) k D (mdOf made) := by
  refine onSm_e e fun a ha e => onSm_e e fun o ho e => dat_fu e fun fd hd e => and_e e fun e e8 => and_e e fun e e7 => and_e e fun e e6 => and_e e fun e e5 => and_e e fun e e4 => and_e e fun e e3 => and_e e fun e1 e2 => ?_
  refine ⟨a, o, fd, cv_of ha, ho, mem_not e1, hd, e2, of_decide_eq_true e3, of_decide_eq_true e4, of_decide_eq_true e5, List.isEmpty_iff.mp e6, ?_, fun k' nm pos args body sc hm => made_at e8 hm⟩
  exact onSm_e e7 fun c hc e7 => onSm_e e7 fun oc hoc e7 => and_e e7 fun e7 g3 => and_e e7 fun g1 g2 => dat_fi g3 fun vs hvs g3 => onSm_e g3 fun v hv g3 => val_s g3 fun q t hq g3 =>
    ⟨c, refV_some hc, ⟨oc, vs, t, hoc, of_decide_eq_true g1, hvs, hv.trans (congrArg some (hq.trans (by rw [of_decide_eq_true g3])))⟩, mem_not g2⟩
theorem nm63 : NM 63 = Str.ofString "__init__" := nm_some (by kernel_rfl)
theorem mem_i0 : (mkT.any fun p => Nat.beq p.1 0 && Nat.beq p.2.1 63 && Nat.beq p.2.2 300) = true := by kernel_rfl
theorem mem_i1 : (mkT.any fun p => Nat.beq p.1 1 && Nat.beq p.2.1 63 && Nat.beq p.2.2 304) = true := by kernel_rfl
theorem init_in {c k : Nat} (e : (mkT.any fun p => Nat.beq p.1 c && Nat.beq p.2.1 63 && Nat.beq p.2.2 k) = true) : (c, 63, k) ∈ mkT := by
  obtain ⟨⟨a, b, d⟩, hp, e⟩ := List.any_eq_true.mp e
  exact and_e e fun e e3 => and_e e fun e1 e2 => by rw [← Nat.eq_of_beq_eq_true e1, ← Nat.eq_of_beq_eq_true e2, ← Nat.eq_of_beq_eq_true e3]; exact hp
theorem cls_def {c init : Nat} (C : Chk h) (hc : c ≤ 1) (hm : (c, 63, init) ∈ mkT) : cvOf h (18 + c) = .ref (clsOf h c) ∧ makesIn (KK h) (clsOf h c) = true ∧ ∃ fI, cvOf h init = .ref fI ∧ findIn (KK h) (.ref (clsOf h c)) "__init__" = some (some (.ref fI)) ∧ typeIn (KK h) (.ref fI) = some (.type "function") := by
  have T := cls_parts (le_one C hc)
  obtain ⟨f, g1, g2, g3, _⟩ := m_parts (C.m _ hm)
  exact ⟨T.h7, T.h6, f, g1, nm63 ▸ g2, g3⟩
theorem defsok (C : Chk h) : DefsOK (mkX w h os) (KK h) DD where
  fn := fun k D e => onL_e e fun p hf e => some_e e ⟨_, fn_parts (C.fn _ (lk_mem hf))⟩
  clo := fun k D e => onL_e e fun p hf e => some_e e ⟨fun args body sc => by show mdd k args body sc = _; unfold mdd; rw [hf]; rfl, by show fvOf k = _; unfold fvOf; rw [hf]; rfl⟩
  cls := fun k c init e => bif_e e (fun q e => by
      cases e
      cases Nat.eq_of_beq_eq_true q
      exact cls_def (c := 0) C (Nat.zero_le _) (init_in mem_i0)) fun _ e => bif_e e (fun q e => by
      cases e
      cases Nat.eq_of_beq_eq_true q
      exact cls_def (c := 1) C (Nat.le_refl _) (init_in mem_i1)) fun _ e => no_some e
theorem wok (e : chk h = true) : WOK (mkX w h os) GG (KK h) DD (mgOf h) (mbOf h) := ⟨xok (chk_parts e), names_ok, clsok (chk_parts e), defsok (chk_parts e)⟩
/-- the start: no object of the mini world -/
theorem start_ok (e : chk h = true) {s : Shared} (hk : ∀ b o, h.get? b = some o → s.heap.get? b = some o) (g : s.gens = #[]) : SOK (mkX w h s.os) [] [] s where
  gens := g
  os := rfl
  base := fun b o e _ => hk b o e
  tabs := SOK.keep_tabs (tabs_ok (chk_parts e)) hk
  len := rfl
  nod := .nil
  hi := fun a m => nomatch m
  obj := fun i o a e => no_some e
end
end Rz
end Q33
section Q34
open PySem PySem.W PySem.Calls PyProof.Rows
namespace Rz
set_option linter.unusedVariables false
set_option linter.unusedSimpArgs false
set_option maxRecDepth 100000

/-! the law's first two statements: a number and a sum over the script -/
section
variable {X : Cx} {G : Gl} {C : Call} {d n : Nat} {md : Md} {A : Around} {ρ : List Addr} {H : MH} {s : Shared} {env : Env} {fr : Fr} {mg mb : Str → Option Value}

theorem ints_rel {h : Heap} {vs : List Value} {ns : List Int} (r : IntsAre vs ns) : VRs X h ρ (ns.map .int) vs := by
  induction r with
  | nil => rfl
  | cons n t r ih => exact VRs.cons VR.int ih
theorem intsOf_map (ns : List Int) : intsOf (ns.map .int) = some ns := by
  induction ns with
  | nil => rfl
  | cons n r ih => exact (onL_of ih).trans rfl
theorem filter_ints (ns : List Int) (is : List Nat) : ∃ ms : List Int, is.filterMap ((ns.map V.int)[·]?) = ms.map .int := by
  induction is with
  | nil => exact ⟨[], rfl⟩
  | cons i is ih =>
    obtain ⟨ms, h⟩ := ih
    rw [List.filterMap_cons, List.getElem?_map]
    cases ns[i]? with
    | none => exact ⟨ms, h⟩
    | some k => exact ⟨k :: ms, by rw [List.map_cons, ← h]; rfl⟩
theorem Ns.unique {h : Heap} {a : Addr} {m m' : Str → Option Value} (x : h.Ns a m) (y : h.Ns a m') : m = m' := by
  obtain ⟨o, es, ep, e1, e2, _, e3⟩ := x
  obtain ⟨o', es', ep', f1, f2, _, f3⟩ := y
  rw [e1] at f1; cases f1
  rw [e2] at f2; cases f2
  funext z
  rw [← e3, ← f3]
theorem script_ne (i : Nat) (h : (NM i == ("script" : Str)) = false) : ("script" : Str) ≠ NM i := fun e => by
  rw [← e] at h; simp at h
/-- the script in the frame -/
noncomputable def Scr (env : Env) (l : Addr) (s : Shared) : Prop := ∃ m, s.heap.Ns env.locals m ∧ m ("script" : Str) = some (.ref l)
theorem sum_stmt (XO : XOK X G mg mb) (hNM : X.NM = NM) {k : Nat} {l : Addr} {vs : List Value} {ns : List Int} {p1 p2 p3 p4 pa pb pc p5 p6 p7 p8 p9 : Pos} {i1 a b c : Int} {k1 ka kb kc : Nat} (c4 : isK env.scope.names ("sum" : Str) .globalImplicit = true) (c5 : isK env.scope.names ("script" : Str) .local = true) (hk : isK env.scope.names (NM k) .local = true) (hok : okN (NM k) = true) (hk2 : k = 133 ∨ k = 127) (c6 : c ≠ 0) (R : Room A d) (S : SOK X ρ H s) (F : FrR X md ρ s.heap env fr) (hs : Scr env l s)
    (hl : s.heap.IsList l vs.toArray) (hI : IntsAre vs ns) (hlen : ns.length ≤ 63) (hl0 : l ∉ ρ) (hlT : l ∉ X.TP) (hlL : l ≠ env.locals) :
    wpAny (Mx X) A (exec (.Assign [.Name (NM k) p1] (.BinOp (.Constant (.int i1) k1 p2) .Add (.Call (.Name ("sum" : Str) p3) [.Subscript (.Name ("script" : Str) p4) (.Slice (some (.Constant (.int a) ka pa)) (some (.Constant (.int b) kb pb)) (some (.Constant (.int c) kc pc)) p5) p6] [] p7) p8) p9) env) (fun f s' => f = .next ∧ ∃ (z : Int) (ρ' : List Addr), SOK X ρ' H s' ∧ ExtB X (some env.locals) ρ s.heap ρ' s'.heap ∧ FrR X md ρ' s'.heap env ⟨put fr.loc k (.int z), fr.cel⟩ ∧ Scr env l s' ∧ s'.heap.IsList l vs.toArray ∧ l ∉ ρ') No s := by
  obtain ⟨g1, g2⟩ := XO.prim .sum
  obtain ⟨n1, n2⟩ := glb_load XO S F
  obtain ⟨m, hm, hms⟩ := hs
  have hlen' : vs.length ≤ 63 := by rw [hI.length]; exact hlen
  refine wpAny_Assign_Name (wpAny_BinOp (wpAny_Constant_int ?_)) rfl
  rw [call_shape rfl]
  refine wpAny_bind (Name_function_global F.kind (isK_spec c4) (loadGlobal_builtin n1 g1 n2 g2 ?_) (by decide +kernel))
  show wpAny _ _ (callWith _ (.builtin "sum") [] [(false, _)] []) _ _ _
  refine callWith_builtin1 (Subscript_ (wpAny_Name (wpAny_loadName_local F.kind (isK_spec c5) hm hms ?_) (by decide +kernel)))
  refine wpAny_Slice (wpAny_Constant_int (k := ka) (pos := pa) (wpAny_Constant_int (k := kb) (pos := pb) (wpAny_Constant_int (k := kc) (pos := pc) ?_)))
  generalize hb : s.toks + 1 + 1 + 1 + 1 = tk
  have k1 : Keep s.heap (s.heap.push { cls := .type "slice", data := .fields #[.int a (s.toks + 1), .int b (s.toks + 1 + 1), .int c (s.toks + 1 + 1 + 1)] }) := keep_push _ _
  obtain ⟨lo, hlo, hlc, hln, hld⟩ := hl
  have hl2 : (s.heap.push { cls := .type "slice", data := .fields #[.int a (s.toks + 1), .int b (s.toks + 1 + 1), .int c (s.toks + 1 + 1 + 1)] }).IsList l vs.toArray := ⟨lo, k1 _ _ hlo, hlc, hln, hld⟩
  refine tail_any (ops := [_, _]) hl2.typeIs PySem.F.slot_list_getitem.lookup (wpAny_getItem_list_slice (lo := some a) (hi := some b) (st := some c) hl2 (Heap.IsSliceOf.new _ _ _ _) (.int _ _) (.int _ _) (.int _ _) (by simpa using c6) ?_ (by rw [List.size_toArray, sizeLine_eq]; (first | lia | omega))) rfl
  obtain ⟨ms, hms'⟩ := filter_ints ns (sliceRange (sliceBounds (some a) (some b) (some c) vs.toArray.size).1 (sliceBounds (some a) (some b) (some c) vs.toArray.size).2.1 (sliceBounds (some a) (some b) (some c) vs.toArray.size).2.2)
  have hr : VRs X s.heap ρ (ms.map .int) ((sliceRange (sliceBounds (some a) (some b) (some c) vs.toArray.size).1 (sliceBounds (some a) (some b) (some c) vs.toArray.size).2.1 (sliceBounds (some a) (some b) (some c) vs.toArray.size).2.2).filterMap (vs[·]?)) := by
    rw [← hms']; exact VRs.filterMap (ints_rel hI) _
  have hI2 := ints_are (intsOf_map ms) hr
  generalize hh1 : s.heap.push { cls := .type "slice", data := .fields #[.int a (s.toks + 1), .int b (s.toks + 1 + 1), .int c (s.toks + 1 + 1 + 1)] } = h1 at k1 hl2 ⊢
  have hpick : slicePick vs.toArray (some a) (some b) (some c) = ((sliceRange (sliceBounds (some a) (some b) (some c) vs.toArray.size).1 (sliceBounds (some a) (some b) (some c) vs.toArray.size).2.1 (sliceBounds (some a) (some b) (some c) vs.toArray.size).2.2).filterMap (vs[·]?)).toArray := by
    unfold slicePick
    simp only [List.getElem?_toArray]
  rw [hpick]
  generalize ((sliceRange (sliceBounds (some a) (some b) (some c) vs.toArray.size).1 (sliceBounds (some a) (some b) (some c) vs.toArray.size).2.1 (sliceBounds (some a) (some b) (some c) vs.toArray.size).2.2).filterMap (vs[·]?)) = its at hI2 ⊢
  dsimp only
  have k2 : Keep s.heap (h1.push { cls := .type "list", data := .seq its.toArray }) := fun b o e => Heap.get?_push_of_some _ (k1 b o e)
  have S2 := (S.grow (s' := { s with heap := h1.push { cls := .type "list", data := .seq its.toArray } }) k2 rfl rfl).tok tk
  have E2 : Ext X ρ s.heap ρ (h1.push { cls := .type "list", data := .seq its.toArray }) := SOK.ext_keep k2
  have F2 := F.step S E2
  refine wpAny_mono (sum_ok (s := { s with heap := h1.push { cls := .type "list", data := .seq its.toArray }, toks := tk }) R.handled S2 (Heap.get?_push_size _ rfl) hI2) (fun cv s3 h3 => ?_) no_no
  refine Exists.elim h3 fun ρ3 z => VR.int_e z.2.2 fun t3 => ?_
  have E3 := z.1
  have S3 := z.2.1
  refine add_int ?_
  have E23 := E2.trans E3
  have F3 := F2.step S2 E3
  obtain ⟨m3, hm3, _⟩ := F3.loc
  have hlo3 : s3.heap.get? l = some lo := E23.ch _ _ hlo hl0 hlT
  have hl3 : l ∉ ρ3 := fun q => by have := (E23.new _ q hl0).1; rw [hlo] at this; cases this
  have hm3' : s3.heap.Ns env.locals m := Ns.step hm fun x e => E23.ch _ _ e F.nL F.tL
  have S4 := S3.tok (s3.toks + 1)
  have mt : mTgN X.NM env.scope.names (.loc k) (NM k) = true := by
    rw [hNM]
    show (NM k == NM k && isK _ _ .local && okN _) = true
    rw [beq_self_eq_true, hk, hok]; rfl
  have F4 : FrR X md ρ3 ({ s3 with toks := s3.toks + 1 } : Shared).heap env fr := F3
  refine wpAny_storeName_local (isK_spec hk) (show ({ s3 with toks := s3.toks + 1 } : Shared).heap.Ns env.locals m from hm3') (fun h' a' b' => ?_) (fr_hp F)
  have p5 := S4.locals XO F4 (tk := s3.toks + 1 + 1) b'
  refine ⟨rfl, i1 + ms.sum, ρ3, p5.1, ((E23.toB S).trans p5.2 fun I q => Option.some.inj q ▸ F3.alive), ?_, ⟨_, a', ?_⟩, ⟨lo, b'.extBut _ _ hlL hlo3, hlc, hln, hld⟩, hl3⟩
  · refine ⟨F.kind, F.glob, F.blt, F3.nL, F.tL, F.bL, ⟨_, a', fun y w q => ?_⟩, fun y i q kk => F3.cel y i q kk, F.mkc⟩
    obtain ⟨m3, hm3, hl3'⟩ := F3.loc
    have hmm : m3 = m := Ns.unique hm3 hm3'
    subst hmm
    rw [lk_put] at q
    by_cases hy : y = k
    · subst hy
      rw [if_pos rfl] at q
      rw [hNM, if_pos rfl]
      exact some_e q ⟨_, rfl, VR.int⟩
    · rw [if_neg hy] at q
      rw [if_neg (fun z => hy (XO.inj _ _ (by rw [hNM] at z ⊢; exact z)))]
      exact Exists.elim (hl3' y w q) fun c' z => ⟨c', z.1, z.2.mono p5.2.mono (List.prefix_refl _)⟩
  · rw [if_neg]
    · exact hms
    · rcases hk2 with rfl | rfl <;> exact script_ne _ (by kernel_rfl)
end
end Rz
end Q34
section Q35
open PySem PySem.W PySem.Calls PyProof.Rows
namespace Rz
set_option linter.unusedVariables false
set_option linter.unusedSimpArgs false
set_option maxRecDepth 100000

noncomputable def chkLawSc (sc : Scope) : Bool := decide (sc.kind = .function) && !sc.isCoroutine && !sc.isGenerator && cellsAre NM sc.names lawCells && isK sc.names ("script" : Str) .local && isK sc.names ("sum" : Str) .globalImplicit && isK sc.names (NM 133) .local && isK sc.names (NM 127) .local && okN (NM 133) && okN (NM 127)
theorem cells_dist : distinct lawCells = true := by kernel_rfl

section
variable {X : Cx} {G : Gl} {C : Call} {d n : Nat} {A : Around} {ρ : List Addr} {H : MH} {s : Shared} {mg mb : Str → Option Value}

theorem law_enter (XO : XOK X G mg mb) (hNM : X.NM = NM) {sc : Scope} {l : Addr} {qual : Str} {func : Option Addr} {code : Value}
    (hk : sc.kind = .function) (h1 : cellsAre NM sc.names lawCells = true) (hs : isK sc.names ("script" : Str) .local = true) (S : SOK X [] [] s) (hl : ∃ o, s.heap.get? l = some o) :
    wpAny (Mx X) A (newFunctionEnv sc mainGlobals [] [(("script" : Str), .ref l)] qual func code none builtinsNs) (fun env s' => ∃ ρ', Ext X [] s.heap ρ' s'.heap ∧ SOK X ρ' H0 s' ∧ FrR X (mdOf []) ρ' s'.heap env ⟨[], zipN lawCells 0⟩ ∧ env.scope = sc ∧ s.heap.get? env.locals = none ∧ Scr env l s') No s := by
  refine frame_ok (md := mdOf []) (cells := lawCells) (fv := []) (cs := []) XO hk ⟨rfl, fun j x c e => no_some e⟩ (hNM ▸ h1) (distinct_nodup cells_dist) S (fun k nm pos args body sc q => nomatch (show false = true from q)) fun env ρ2 s2 E2 S2 F hs' hL => ?_
  obtain ⟨m0, hm0, _⟩ := F.loc
  rw [List.forIn_cons]
  refine wpAny_bind (wpAny_bind (wpAny_storeName_local (isK_spec (hs' ▸ hs)) hm0 (fun h' a' b' => wpAny_pure ?_) (fr_hp F)))
  have p5 := S2.locals XO F (tk := s2.toks + 1) b'
  dsimp only
  rw [List.forIn_nil]
  exact wpAny_pure ⟨_, E2.transB p5.2 (fun I q => Option.some.inj q ▸ hL), p5.1, ⟨F.kind, F.glob, F.blt, F.nL, F.tL, F.bL, ⟨_, a', fun x v q => no_some q⟩, F.cel, F.mkc⟩, hs', hL, ⟨_, a', by simp⟩⟩
theorem FrR.fewer {md : Md} {ρ : List Addr} {h : Heap} {env : Env} {l l' : List (Nat × V)} {cel : List (Nat × Nat)} (F : FrR X md ρ h env ⟨l, cel⟩) (hl : ∀ x v, lk l' x = some v → lk l x = some v) : FrR X md ρ h env ⟨l', cel⟩ :=
  ⟨F.kind, F.glob, F.blt, F.nL, F.tL, F.bL, Exists.elim F.loc fun m q => ⟨m, q.1, fun x v e => q.2 x v (hl x v e)⟩, F.cel, F.mkc⟩
theorem law_call {K : Frag} {Df : Defs} (W : WOK X G K Df mg mb) (hNM : X.NM = NM) (CO : CallOK X C d) (B : BmOK X C) (S : SOK X [] [] s) {l : Addr} {vs : List Value} {ns : List Int} (hl : s.heap.IsList l vs.toArray) (hI : IntsAre vs ns) (hlen : ns.length ≤ 63) (hlT : l ∉ X.TP)
    {fa : Addr} {o : Obj} {fd : FuncData} {ar : Arg} {rest : List Stmt} {p1 p2 p3 p4 pa pb pc p5 p6 p7 p8 p9 : Pos} {i1 a b c : Int} {k1 ka kb kc : Nat} {p1x p2x p3x p4x pax pbx pcx p5x p6x p7x p8x p9x : Pos} {i1x ax bx cx : Int} {k1x kax kbx kcx : Nat} (ho : s.heap.get? fa = some o) (hd : o.data = .func fd) (hpar : fd.params = ⟨[], [ar], none, [], [], none, []⟩) (m1 : ar.arg = ("script" : Str)) (hbody : fd.body = .stmts ((.Assign [.Name (NM 133) p1] (.BinOp (.Constant (.int i1) k1 p2) .Add (.Call (.Name ("sum" : Str) p3) [.Subscript (.Name ("script" : Str) p4) (.Slice (some (.Constant (.int a) ka pa)) (some (.Constant (.int b) kb pb)) (some (.Constant (.int c) kc pc)) p5) p6] [] p7) p8) p9) :: (.Assign [.Name (NM 127) p1x] (.BinOp (.Constant (.int i1x) k1x p2x) .Add (.Call (.Name ("sum" : Str) p3x) [.Subscript (.Name ("script" : Str) p4x) (.Slice (some (.Constant (.int ax) kax pax)) (some (.Constant (.int bx) kbx pbx)) (some (.Constant (.int cx) kcx pcx)) p5x) p6x] [] p7x) p8x) p9x) :: rest)) (hc1 : c ≠ 0) (hc2 : cx ≠ 0) (m9 : mSs NM (mdOf []) fd.scope.names lawRest rest = true) (hlaw : chkLawSc fd.scope = true) (hg : fd.globals = mainGlobals) (hb : fd.builtins = builtinsNs) (hdef : fd.defaults = .none) (hcd : s.heap.CodeRec fd.code fd.qualname) (hclo : fd.closure = [])
    (hmini : ∀ z1 z2 : Int, ∃ fr2 H2, fSs G C n lawRest ⟨put (put [] 133 (.int z1)) 127 (.int z2), zipN lawCells 0⟩ H0 = some (.ret (.bool true), fr2, H2)) (R : Room A (d + 2)) :
    wpAny (Mx X) A (call (.ref fa) [.ref l]) (fun c s' => c = .bool true ∧ ∃ ρ' H', Ext X [] s.heap ρ' s'.heap ∧ SOK X ρ' H' s') No s := by
  have hroom : A.depth < recursionLimit := by have := R.depth; show A.depth < 1000; (first | lia | omega)
  have R' : ∀ env, Room (A.deeper env) (d + 1) := fun env => ⟨R.handled, by have := R.depth; show A.depth + 1 + (d + 1) < 990; (first | lia | omega), by have := R.units; show A.units + 3 + 8 * (d + 1) < 9000; (first | lia | omega)⟩
  have XO := W.xo
  have lim : ∀ {ρ2 : List Addr} {H2 : MH} {s2 : Shared}, SOK X ρ2 H2 s2 → s2.heap.NoLimit := fun S2 => Exists.elim XO.lim fun mc h => ⟨mc, Ns.step h.1 fun x q => S2.base _ _ q XO.limT, h.2⟩
  refine and_e hlaw fun hlaw q5 => and_e hlaw fun hlaw q4 => and_e hlaw fun hlaw q3 => and_e hlaw fun hlaw q2 => and_e hlaw fun hlaw q1 => and_e hlaw fun hlaw m6 => and_e hlaw fun hlaw m5 => and_e hlaw fun hlaw m4 => and_e hlaw fun m2 m3 => ?_
  replace m2 := of_decide_eq_true m2
  replace m3 := neg_e m3
  replace m4 := neg_e m4
  refine wpAny_call (codeAny_call_function hroom ho hd m3 m4 hbody hcd (binds_ok hpar hdef (by simp) rfl ?_))
  rw [hg, hb, hclo]
  show wpAny _ _ (newFunctionEnv _ _ _ [(ar.arg, Value.ref l)] _ _ _ _ _) _ _ _
  rw [m1]
  obtain ⟨lo, hlo, hlr⟩ := id hl
  refine wno (wpAny_mono (law_enter XO hNM m2 m5 m6 S ⟨lo, hlo⟩) (fun env s1 h1 => ?_) no_no)
  obtain ⟨ρ1, E1, S1, F1, hs, hL, hscr⟩ := h1
  refine ⟨lim S1, codeAny_func ?_⟩
  have hl0 : l ∉ ρ1 := fun q => by have := (E1.new _ q (by simp)).1; rw [hlo] at this; cases this
  have hlL : l ≠ env.locals := fun q => by rw [← q, hlo] at hL; cases hL
  have hl1 : s1.heap.IsList l vs.toArray := ⟨lo, E1.ch _ _ hlo (by simp) hlT, hlr⟩
  refine wpAny_execs_cons (wno (wpAny_mono (sum_stmt XO hNM (hs ▸ q1) (hs ▸ m6) (hs ▸ q2) q4 (.inl rfl) hc1 (R' env) S1 F1 hscr hl1 hI hlen hl0 hlT hlL) (fun f s2 h2 => ?_) no_no))
  rw [h2.1]
  refine Exists.elim h2.2 fun z1 h2 => Exists.elim h2 fun ρ2 h2 => ?_
  have S2 := h2.1
  have F2 := h2.2.2.1
  have T2 := h2.2.2.2
  refine wpAny_execs_cons (wno (wpAny_mono (sum_stmt XO hNM (hs ▸ q1) (hs ▸ m6) (hs ▸ q3) q5 (.inr rfl) hc2 (R' env) S2 F2 T2.1 T2.2.1 hI hlen T2.2.2 hlT hlL) (fun f s3 h3 => ?_) no_no))
  rw [h3.1]
  refine Exists.elim h3.2 fun z2 h3 => Exists.elim h3 fun ρ3 h3 => ?_
  obtain ⟨fr2, H2, em⟩ := hmini z1 z2
  refine wno (wpAny_mono (ss_ok (allOK W CO B) lawRest (by rw [hs, hNM]; exact m9) em (R' env) h3.1 h3.2.2.1) (fun f s4 h4 => ?_) no_no)
  obtain ⟨ρ4, E4, S4, F4, c, rfl, r⟩ := h4
  have hB : ∀ I, some env.locals = some I → s.heap.get? I = none := fun I q => Option.some.inj q ▸ hL
  exact ⟨r, ρ4, H2, ((E1.transB h2.2.1 hB).transB h3.2.1 hB).transB E4 hB, S4⟩
end
end Rz
end Q35
section P1
open PySem PySem.W PySem.Calls PyProof.Rows
namespace Rz
set_option linter.unusedVariables false
set_option linter.unusedSimpArgs false
set_option maxRecDepth 100000
theorem bnd_of {α β : Type} {o : Option α} {a : α} {k : α → Option β} {r : Option β} (e : o = some a) (f : k a = r) : o.bind k = r := by
  rw [e]; exact f
theorem map_of {α β : Type} {o : Option α} {a : α} {k : α → β} (e : o = some a) : o.map k = some (k a) := by
  rw [e]; rfl
section
variable {G : Gl} {C : Call} {n : Nat}
/-! the evaluator, rule by rule -/
theorem f_bop1 (o e e2 fr h) : fE G C n (.bop o e (.cons e2 .nil)) fr h = (fE G C n e fr h).bind fun p => (trueV p.1 p.2).bind fun b => bif goOn o b then fE G C n e2 fr p.2 else some p := by
  show (fE G C n e fr h).bind (fun p => (trueV p.1 p.2).bind fun b => bif goOn o b then (fE G C n e2 fr p.2).bind (fun q => some q) else some p) = _
  have h0 : ∀ m, (fE G C n e2 fr m).bind (fun q => some q) = fE G C n e2 fr m := fun m => by cases fE G C n e2 fr m <;> rfl
  simp only [h0]
theorem f_tbop (o ts fr h) : fT G C n (.bop o ts) fr h = fA G C n ts o fr h := rfl
theorem f_aor (e es fr h) : fA G C n (.cons e es) .Or fr h = (fT G C n e fr h).bind fun p => bif p.1 then some (true, p.2) else fA G C n es .Or fr p.2 := by
  show (fT G C n e fr h).bind (fun p => bif !p.1 then fA G C n es .Or fr p.2 else some (p.1, p.2)) = _
  rcases fT G C n e fr h with _ | ⟨_ | _, _⟩ <;> rfl
theorem f_aand (e es fr h) : fA G C n (.cons e es) .And fr h = (fT G C n e fr h).bind fun p => bif p.1 then fA G C n es .And fr p.2 else some (false, p.2) := by
  show (fT G C n e fr h).bind (fun p => bif p.1 then fA G C n es .And fr p.2 else some (p.1, p.2)) = _
  rcases fT G C n e fr h with _ | ⟨_ | _, _⟩ <;> rfl
theorem f_asg (t e fr h) : fS G C n (.asg t e) fr h = (fE G C n e fr h).bind fun p => (stT t p.1 fr p.2).map fun q => (.nxt, q.1, q.2) := rfl
end
end Rz
end P1
section P2
open PySem PySem.W PySem.Calls PyProof.Rows
namespace Rz
set_option linter.unusedVariables false
set_option linter.unusedSimpArgs false
set_option maxRecDepth 100000
section
variable {G : Gl} {C : Call} {n : Nat}
/-! the primitives, rule by rule -/
theorem b_add (a b : Int) (h : MH) : binV .Add (.int a) (.int b) h = some (.int (a + b), h) := rfl
theorem b_sub (a b : Int) (h : MH) : binV .Sub (.int a) (.int b) h = some (.int (a - b), h) := rfl
theorem b_mul (a b : Int) (h : MH) : binV .Mult (.int a) (.int b) h = if mulOk a b = true then some (.int (a * b), h) else none := rfl
theorem b_fdiv (a b : Int) (h : MH) : binV .FloorDiv (.int a) (.int b) h = if b ≠ 0 ∧ b.natAbs < 1073741824 then some (.int (a.fdiv b), h) else none := rfl
theorem b_mod (a b : Int) (h : MH) : binV .Mod (.int a) (.int b) h = if b ≠ 0 then some (.int (a.fmod b), h) else none := rfl
theorem b_pow (a b : Int) (h : MH) : binV .Pow (.int a) (.int b) h = if 0 ≤ b ∧ (Builtin.Int.intBits a : Int) * b ≤ 134217728 then some (.int (a ^ b.toNat), h) else none := rfl
theorem b_shl (a b : Int) (h : MH) : binV .LShift (.int a) (.int b) h = if 0 ≤ b ∧ (Builtin.Int.intBits a : Int) + b ≤ 134217728 then some (.int (a * 2 ^ b.toNat), h) else none := rfl
theorem b_shr (a b : Int) (h : MH) : binV .RShift (.int a) (.int b) h = if 0 ≤ b then some (.int (a.fdiv (2 ^ b.toNat)), h) else none := rfl
theorem b_and (a b : Int) (h : MH) : binV .BitAnd (.int a) (.int b) h = some (.int (Builtin.bitAnd a b), h) := rfl
theorem b_or (a b : Int) (h : MH) : binV .BitOr (.int a) (.int b) h = some (.int (Builtin.bitOr a b), h) := rfl
theorem b_xor (a b : Int) (h : MH) : binV .BitXor (.int a) (.int b) h = some (.int (Builtin.bitXor a b), h) := rfl
theorem g_add (a b : Int) (h : MH) : augV .Add (.int a) (.int b) h = some (.int (a + b), h) := rfl
theorem g_sub (a b : Int) (h : MH) : augV .Sub (.int a) (.int b) h = some (.int (a - b), h) := rfl
theorem g_shl (a b : Int) (h : MH) : augV .LShift (.int a) (.int b) h = if 0 ≤ b ∧ (Builtin.Int.intBits a : Int) + b ≤ 134217728 then some (.int (a * 2 ^ b.toNat), h) else none := rfl
theorem g_shr (a b : Int) (h : MH) : augV .RShift (.int a) (.int b) h = if 0 ≤ b then some (.int (a.fdiv (2 ^ b.toNat)), h) else none := rfl
theorem c_eq (a b : Int) (h : MH) : cmpV .Eq (.int a) (.int b) h = some (decide (a = b)) := rfl
theorem c_ne (a b : Int) (h : MH) : cmpV .NotEq (.int a) (.int b) h = some (!decide (a = b)) := rfl
theorem c_lt (a b : Int) (h : MH) : cmpV .Lt (.int a) (.int b) h = some (decide (a < b)) := rfl
theorem c_le (a b : Int) (h : MH) : cmpV .LtE (.int a) (.int b) h = some (decide (a ≤ b)) := rfl
theorem c_gt (a b : Int) (h : MH) : cmpV .Gt (.int a) (.int b) h = some (decide (b < a)) := rfl
theorem c_ge (a b : Int) (h : MH) : cmpV .GtE (.int a) (.int b) h = some (decide (b ≤ a)) := rfl
theorem t_int (a : Int) (h : MH) : trueV (.int a) h = some (!decide (a = 0)) := rfl
theorem p_divmod (a b : Int) (h : MH) : primV .divmod [.int a, .int b] h = if b ≠ 0 ∧ Builtin.divisionGoesByPylong a b = false then some (.tup [.int (a.fdiv b), .int (a.fmod b)], h) else none := rfl
theorem m_bits (a : Int) (h : MH) : biM 8 (.int a) [] h = some (.int (Builtin.Int.intBits a : Nat), h) := rfl
theorem ce_int (i : Int) (x : Nat) (h : MH) : calleeV G (.int i) x h = some (.bi (.int i)) := rfl
theorem st_loc (x : Nat) (v : V) (fr : Fr) (h : MH) : stT (.loc x) v fr h = some (⟨put fr.loc x v, fr.cel⟩, h) := rfl
theorem st_nil (fr : Fr) (h : MH) : stTs [] [] fr h = some (fr, h) := rfl
theorem st_cons (t : Tg) (ts : List Tg) (v : V) (vs : List V) (fr : Fr) (h : MH) : stTs (t :: ts) (v :: vs) fr h = (stT t v fr h).bind fun p => stTs ts vs p.1 p.2 := rfl
theorem ld_loc (x : Nat) (fr : Fr) (h : MH) : ldT (.loc x) fr h = lk fr.loc x := rfl
theorem lk_nil {α : Type} (x : Nat) : lk ([] : List (Nat × α)) x = none := rfl
theorem gg_at (x : Nat) : GG.g x = lk gT x := rfl
end
/-- the law's oracle -/
noncomputable abbrev CI (d : Nat) : Call := iC GG DD 200 d
theorem CI_succ (d : Nat) : CI (d + 1) = stepI GG DD 200 (CI d) := rfl
theorem isoOut_atom {o : Bool} {v : V} (ha : atomV v = true) (h' H : MH) : isoOut o v h' H = some (v, H) := by
  have p : iff (atomV v) (some (v, H)) = some (v, H) := iff_of ha
  cases v <;> first | exact p | exact nomatch (show false = true from ha)
theorem isoOut_ref {o : Bool} {j : Nat} {h' H : MH} {ws : List V} (hl : listAt h' j = some ws) (hw : allAtoms ws = true) (hj : (o && Nat.beq j 0) = false) : isoOut o (.ref j) h' H = some (.ref H.length, H ++ [.list ws]) :=
  (onL_of hl).trans ((iff_of hw).trans (iff_of (by rw [hj]; rfl)))
theorem runK_fn {k : Nat} {D : MDef} {C : Call} {vs : List V} {H : MH} (hD : DD.fn k = some D) : runK GG DD C 200 (.con k) vs H = runDef GG C 200 D [] vs H := by
  show onSm (DD.fn k) _ _ = _
  rw [hD]; rfl
theorem isoV_all {C : Call} {k : Nat} {vs : List V} (hv : vs.all atomV = true) (H : MH) : isoV C k vs H = isoB C k vs H := by
  cases vs with
  | nil => rfl
  | cons v r => cases v <;> first | rfl | exact nomatch (show false = true from hv)
/-- a pure function of atoms -/
theorem CI_atoms {d k : Nat} {D : MDef} {vs : List V} {v : V} {h' : MH} (hk : memN pureK k = true) (hD : DD.fn k = some D) (hv : vs.all atomV = true) (e : runDef GG (CI d) 200 D [] vs [] = some (v, h')) (H : MH) : CI (d + 1) (.con k) vs H = isoOut false v h' H := by
  rw [CI_succ]
  show (bif memN pureK k then isoV (runK GG DD (CI d) 200) k vs H else _) = _
  rw [hk, cond_true, isoV_all hv]
  exact (iff_of hv).trans (by rw [runK_fn hD, e]; rfl)
/-- a pure function of a list of atoms (and atoms) -/
theorem CI_list {d k l : Nat} {D : MDef} {ws r : List V} {v : V} {h' H : MH} (hk : memN pureK k = true) (hD : DD.fn k = some D) (hl : listAt H l = some ws) (hw : allAtoms ws = true) (hv : r.all atomV = true)
    (e : runDef GG (CI d) 200 D [] (.ref 0 :: r) [.list ws] = some (v, h')) (hs : sameL ws h' = true) : CI (d + 1) (.con k) (.ref l :: r) H = isoOut true v h' H := by
  rw [CI_succ]
  show (bif memN pureK k then isoA (runK GG DD (CI d) 200) k l r H else _) = _
  rw [hk, cond_true]
  exact (onL_of hl).trans ((iff_of (by rw [hw, hv]; rfl)).trans (by rw [runK_fn hD, e]; exact iff_of hs))
/-- a pure function of atoms that answers an atom -/
theorem pure_call {d k : Nat} {D : MDef} {vs : List V} {v : V} {h' : MH} (hk : memN pureK k = true) (hD : DD.fn k = some D) (hv : vs.all atomV = true) (ha : atomV v = true) (e : runDef GG (CI d) 200 D [] vs [] = some (v, h')) (H : MH) : CI (d + 1) (.con k) vs H = some (v, H) :=
  (CI_atoms hk hD hv e H).trans (isoOut_atom ha h' H)
end Rz
end P2
section P3
open PySem PySem.W PySem.Calls PyProof.Rows
namespace Rz
set_option linter.unusedVariables false
set_option linter.unusedSimpArgs false
set_option maxRecDepth 100000
theorem onCel_of {α : Type} {o : Option AO} {v : Option V} {x : Option α} (e : o = some (.cell v)) : onCel o x = x := by rw [e]; rfl
theorem celV_of {o : Option AO} {v : Option V} (e : o = some (.cell v)) : celV o = v := by rw [e]; rfl
theorem fuel {k m : Nat} (h : k < m) : ∃ m', m = m' + 1 := match m, h with | m + 1, _ => ⟨m, rfl⟩
section
variable {G : Gl} {C : Call} {n : Nat} {fr fr1 fr2 : Fr} {h h1 h2 h3 : MH} {r : Out} {v w : V} {x y : Nat} {e : E} {ss a b : Ss} {s : St} {t : T}
/-! statements, by what their parts answer -/
theorem x_cons (h0 : fS G C n s fr h = some (.nxt, fr1, h1)) (k : fSs G C n ss fr1 h1 = r) : fSs G C n (.cons s ss) fr h = r := bnd_of h0 k
theorem x_stop (h0 : fS G C n s fr h = some (.ret v, fr1, h1)) : fSs G C n (.cons s ss) fr h = some (.ret v, fr1, h1) := bnd_of h0 rfl
theorem x_asg (h0 : fE G C n e fr h = some (v, h1)) : fS G C n (.asg (.loc x) e) fr h = some (.nxt, ⟨put fr.loc x v, fr.cel⟩, h1) := bnd_of h0 rfl
theorem x_asgc {i : Nat} {u : Option V} (h0 : fE G C n e fr h = some (v, h1)) (hx : lk fr.cel x = some i) (hi : h1[i]? = some (.cell u)) : fS G C n (.asg (.cel x) e) fr h = some (.nxt, fr, h1.set i (.cell (some v))) := bnd_of h0 (map_of (show stT (.cel x) v fr h1 = some (fr, h1.set i (.cell (some v))) from bnd_of hx (onCel_of hi)))
theorem x_asg2 (h0 : fE G C n e fr h = some (.tup [v, w], h1)) : fS G C n (.asgT [.loc x, .loc y] e) fr h = some (.nxt, ⟨put (put fr.loc x v) y w, fr.cel⟩, h1) := bnd_of h0 rfl
theorem x_ex (h0 : fE G C n e fr h = some (v, h1)) : fS G C n (.ex e) fr h = some (.nxt, fr, h1) := map_of h0
theorem x_ret (h0 : fE G C n e fr h = some (v, h1)) : fSs G C n (.cons (.ret e) ss) fr h = some (.ret v, fr, h1) := x_stop (map_of h0)
theorem x_if (h0 : fT G C n t fr h = some (true, h1)) (k : fSs G C n a fr h1 = r) : fS G C n (.ife t a b) fr h = r := bnd_of h0 k
theorem x_else (h0 : fT G C n t fr h = some (false, h1)) (k : fSs G C n b fr h1 = r) : fS G C n (.ife t a b) fr h = r := bnd_of h0 k
theorem x_skip (h0 : fT G C n t fr h = some (false, h1)) : fS G C n (.ife t a .nil) fr h = some (.nxt, fr, h1) := x_else h0 rfl
theorem x_setI {o i e : E} {vo vi : V} {h4 : MH} (h0 : fE G C n e fr h = some (v, h1)) (ho : fE G C n o fr h1 = some (vo, h2)) (hi : fE G C n i fr h2 = some (vi, h3)) (hs : setIV vo vi v h3 = some h4) : fS G C n (.setI o i e) fr h = some (.nxt, fr, h4) := bnd_of h0 (bnd_of ho (bnd_of hi (map_of hs)))
theorem x_setA {o e : E} {vo : V} {h4 : MH} (h0 : fE G C n e fr h = some (v, h1)) (ho : fE G C n o fr h1 = some (vo, h2)) (hs : setAV G vo x v h2 = some h4) : fS G C n (.setA o x e) fr h = some (.nxt, fr, h4) := bnd_of h0 (bnd_of ho (map_of hs))
theorem x_aug {op : Operator} {old u : V} (ho : lk fr.loc x = some old) (h0 : fE G C n e fr h = some (v, h1)) (hs : augV op old v h1 = some (u, h2)) : fS G C n (.aug (.loc x) op e) fr h = some (.nxt, ⟨put fr.loc x u, fr.cel⟩, h2) := bnd_of ho (bnd_of h0 (bnd_of hs rfl))
/-! expressions -/
theorem y_loc (hx : lk fr.loc x = some v) : fE G C n (.loc x) fr h = some (v, h) := map_of hx
theorem y_cel {i : Nat} (hx : lk fr.cel x = some i) (hi : h[i]? = some (.cell (some v))) : fE G C n (.cel x) fr h = some (v, h) := map_of (bnd_of hx (celV_of hi))
theorem y_glb (hx : G.g x = some v) : fE G C n (.glb x) fr h = some (v, h) := map_of hx
theorem y_bin {op : Operator} {a b : E} {va vb : V} {r : Option (V × MH)} (ha : fE G C n a fr h = some (va, h1)) (hb : fE G C n b fr h1 = some (vb, h2)) (hr : binV op va vb h2 = r) : fE G C n (.bin op a b) fr h = r := bnd_of ha (bnd_of hb hr)
theorem y_cmp {op : CmpOp} {a b : E} {va vb : V} {q : Bool} (ha : fE G C n a fr h = some (va, h1)) (hb : fE G C n b fr h1 = some (vb, h2)) (hr : cmpV op va vb h2 = some q) : fE G C n (.cmp op a b) fr h = some (.bool q, h2) := bnd_of ha (bnd_of hb (map_of hr))
theorem y_tcmp {op : CmpOp} {a b : E} {va vb : V} {q : Bool} (ha : fE G C n a fr h = some (va, h1)) (hb : fE G C n b fr h1 = some (vb, h2)) (hr : cmpV op va vb h2 = some q) : fT G C n (.cmp op a b) fr h = some (q, h2) := bnd_of ha (bnd_of hb (map_of hr))
theorem y_tval {q : Bool} (ha : fE G C n e fr h = some (v, h1)) (hr : trueV v h1 = some q) : fT G C n (.val e) fr h = some (q, h1) := bnd_of ha (map_of hr)
theorem y_call {f : E} {es : Es} {vf : V} {vs : List V} {r : Option (V × MH)} (hf : fE G C n f fr h = some (vf, h1)) (ha : (fL G C n es).1 fr h1 = some (vs, h2)) (hr : C vf vs h2 = r) : fE G C n (.call f es) fr h = r := bnd_of hf (bnd_of ha hr)
theorem y_prim {p : Prim} {es : Es} {vs : List V} {r : Option (V × MH)} (ha : (fL G C n es).1 fr h = some (vs, h1)) (hr : primV p vs h1 = r) : fE G C n (.prim p es) fr h = r := bnd_of ha hr
theorem y_nil : (fL G C n .nil).1 fr h = some ([], h) := rfl
theorem y_cons {es : Es} {vs : List V} (ha : fE G C n e fr h = some (v, h1)) (hb : (fL G C n es).1 fr h1 = some (vs, h2)) : (fL G C n (.cons e es)).1 fr h = some (v :: vs, h2) := bnd_of ha (map_of hb)
theorem y_bi {o : E} {es : Es} {vo self : V} {vs : List V} {r : Option (V × MH)} (ho : fE G C n o fr h = some (vo, h1)) (hc : calleeV G vo x h1 = some (.bi self)) (ha : (fL G C n es).1 fr h1 = some (vs, h2)) (hr : biM x self vs h2 = r) : fE G C n (.mth o x es) fr h = r := bnd_of ho (bnd_of hc (bnd_of ha hr))
theorem y_val {o : E} {es : Es} {vo g : V} {pre vs : List V} {r : Option (V × MH)} (ho : fE G C n o fr h = some (vo, h1)) (hc : calleeV G vo x h1 = some (.val g pre)) (ha : (fL G C n es).1 fr h1 = some (vs, h2)) (hr : C g (pre ++ vs) h2 = r) : fE G C n (.mth o x es) fr h = r := bnd_of ho (bnd_of hc (bnd_of ha hr))
theorem y_tup {es : Es} {vs : List V} (ha : (fL G C n es).1 fr h = some (vs, h1)) (hl : vs.length ≤ 16777216) : fE G C n (.tup es) fr h = some (.tup vs, h1) := bnd_of ha (if_pos hl)
theorem y_lst {es : Es} {vs : List V} (ha : (fL G C n es).1 fr h = some (vs, h1)) (hl : vs.length ≤ 16777216) : fE G C n (.lst es) fr h = some (.ref h1.length, h1 ++ [.list vs]) := bnd_of ha (if_pos hl)
theorem y_idx {o i : E} {vo vi : V} (ho : fE G C n o fr h = some (vo, h1)) (hi : fE G C n i fr h1 = some (vi, h2)) (hr : idxV vo vi h2 = some v) : fE G C n (.idx o i) fr h = some (v, h2) := bnd_of ho (bnd_of hi (map_of hr))
theorem y_neg {i : Int} (ha : fE G C n e fr h = some (.int i, h1)) : fE G C n (.neg e) fr h = some (.int (-i), h1) := bnd_of ha rfl
theorem y_inv {i : Int} (ha : fE G C n e fr h = some (.int i, h1)) : fE G C n (.inv e) fr h = some (.int (Builtin.bitNot i), h1) := bnd_of ha rfl
theorem y_att {o : E} {vo : V} (ho : fE G C n o fr h = some (vo, h1)) (hr : attV G vo x h1 = some v) : fE G C n (.att o x) fr h = some (v, h1) := bnd_of ho (map_of hr)
theorem t_le_t {p q : E} {a b : Int} (ha : fE G C n p fr h = some (.int a, h1)) (hb : fE G C n q fr h1 = some (.int b, h2)) (hc : a ≤ b) : fT G C n (.cmp .LtE p q) fr h = some (true, h2) := y_tcmp ha hb (congrArg some (decide_eq_true hc))
theorem t_le_f {p q : E} {a b : Int} (ha : fE G C n p fr h = some (.int a, h1)) (hb : fE G C n q fr h1 = some (.int b, h2)) (hc : ¬ a ≤ b) : fT G C n (.cmp .LtE p q) fr h = some (false, h2) := y_tcmp ha hb (congrArg some (decide_eq_false hc))
theorem t_lt_t {p q : E} {a b : Int} (ha : fE G C n p fr h = some (.int a, h1)) (hb : fE G C n q fr h1 = some (.int b, h2)) (hc : a < b) : fT G C n (.cmp .Lt p q) fr h = some (true, h2) := y_tcmp ha hb (congrArg some (decide_eq_true hc))
theorem t_lt_f {p q : E} {a b : Int} (ha : fE G C n p fr h = some (.int a, h1)) (hb : fE G C n q fr h1 = some (.int b, h2)) (hc : ¬ a < b) : fT G C n (.cmp .Lt p q) fr h = some (false, h2) := y_tcmp ha hb (congrArg some (decide_eq_false hc))
theorem t_gt_t {p q : E} {a b : Int} (ha : fE G C n p fr h = some (.int a, h1)) (hb : fE G C n q fr h1 = some (.int b, h2)) (hc : b < a) : fT G C n (.cmp .Gt p q) fr h = some (true, h2) := y_tcmp ha hb (congrArg some (decide_eq_true hc))
theorem t_gt_f {p q : E} {a b : Int} (ha : fE G C n p fr h = some (.int a, h1)) (hb : fE G C n q fr h1 = some (.int b, h2)) (hc : ¬ b < a) : fT G C n (.cmp .Gt p q) fr h = some (false, h2) := y_tcmp ha hb (congrArg some (decide_eq_false hc))
theorem t_ge_t {p q : E} {a b : Int} (ha : fE G C n p fr h = some (.int a, h1)) (hb : fE G C n q fr h1 = some (.int b, h2)) (hc : b ≤ a) : fT G C n (.cmp .GtE p q) fr h = some (true, h2) := y_tcmp ha hb (congrArg some (decide_eq_true hc))
theorem t_ge_f {p q : E} {a b : Int} (ha : fE G C n p fr h = some (.int a, h1)) (hb : fE G C n q fr h1 = some (.int b, h2)) (hc : ¬ b ≤ a) : fT G C n (.cmp .GtE p q) fr h = some (false, h2) := y_tcmp ha hb (congrArg some (decide_eq_false hc))
theorem t_eq_t {p q : E} {a b : Int} (ha : fE G C n p fr h = some (.int a, h1)) (hb : fE G C n q fr h1 = some (.int b, h2)) (hc : a = b) : fT G C n (.cmp .Eq p q) fr h = some (true, h2) := y_tcmp ha hb (congrArg some (decide_eq_true hc))
theorem t_eq_f {p q : E} {a b : Int} (ha : fE G C n p fr h = some (.int a, h1)) (hb : fE G C n q fr h1 = some (.int b, h2)) (hc : ¬ a = b) : fT G C n (.cmp .Eq p q) fr h = some (false, h2) := y_tcmp ha hb (congrArg some (decide_eq_false hc))
theorem t_ne_t {p q : E} {a b : Int} (ha : fE G C n p fr h = some (.int a, h1)) (hb : fE G C n q fr h1 = some (.int b, h2)) (hc : a ≠ b) : fT G C n (.cmp .NotEq p q) fr h = some (true, h2) := y_tcmp ha hb (congrArg (fun z => some (!z)) (decide_eq_false hc))
theorem t_ne_f {p q : E} {a b : Int} (ha : fE G C n p fr h = some (.int a, h1)) (hb : fE G C n q fr h1 = some (.int b, h2)) (hc : a = b) : fT G C n (.cmp .NotEq p q) fr h = some (false, h2) := y_tcmp ha hb (congrArg (fun z => some (!z)) (decide_eq_true hc))
theorem t_int_t {p : E} {a : Int} (ha : fE G C n p fr h = some (.int a, h1)) (hc : a ≠ 0) : fT G C n (.val p) fr h = some (true, h1) := y_tval ha (congrArg (fun z => some (!z)) (decide_eq_false hc))
theorem t_int_f {p : E} {a : Int} (ha : fE G C n p fr h = some (.int a, h1)) (hc : a = 0) : fT G C n (.val p) fr h = some (false, h1) := y_tval ha (congrArg (fun z => some (!z)) (decide_eq_true hc))
theorem y_shl {a b : E} {x y : Int} (ha : fE G C n a fr h = some (.int x, h1)) (hb : fE G C n b fr h1 = some (.int y, h2)) (h0 : 0 ≤ y) (hs : (Builtin.Int.intBits x : Int) + y ≤ 134217728) : fE G C n (.bin .LShift a b) fr h = some (.int (x * 2 ^ y.toNat), h2) := y_bin ha hb (if_pos ⟨h0, hs⟩)
theorem y_shr {a b : E} {x y : Int} (ha : fE G C n a fr h = some (.int x, h1)) (hb : fE G C n b fr h1 = some (.int y, h2)) (h0 : 0 ≤ y) : fE G C n (.bin .RShift a b) fr h = some (.int (x.fdiv (2 ^ y.toNat)), h2) := y_bin ha hb (if_pos h0)
theorem y_mul {a b : E} {x y : Int} (ha : fE G C n a fr h = some (.int x, h1)) (hb : fE G C n b fr h1 = some (.int y, h2)) (hs : mulOk x y = true) : fE G C n (.bin .Mult a b) fr h = some (.int (x * y), h2) := y_bin ha hb (if_pos hs)
theorem whl_stop {test : Fr → MH → Option (Bool × MH)} {body : Fr → MH → Out} {m : Nat} (ht : test fr h = some (false, h1)) : whlL test body (m + 1) fr h = some (.nxt, fr, h1) := bnd_of ht rfl
theorem whl_go {test : Fr → MH → Option (Bool × MH)} {body : Fr → MH → Out} {m : Nat} (ht : test fr h = some (true, h1)) (hb : body fr h1 = some (.nxt, fr1, h2)) : whlL test body (m + 1) fr h = whlL test body m fr1 h2 := bnd_of ht (bnd_of hb rfl)
theorem x_whl (hw : whlL (fT G C n t) (fSs G C n b) n fr h = r) : fS G C n (.whl t b) fr h = r := hw
theorem y_ifT {a b : E} {r : Option (V × MH)} (h0 : fT G C n t fr h = some (true, h1)) (k : fE G C n a fr h1 = r) : fE G C n (.ife t a b) fr h = r := bnd_of h0 k
theorem y_ifF {a b : E} {r : Option (V × MH)} (h0 : fT G C n t fr h = some (false, h1)) (k : fE G C n b fr h1 = r) : fE G C n (.ife t a b) fr h = r := bnd_of h0 k
theorem for_stop {nx : It → MH → Option (Option (V × It) × MH)} {body : V → Fr → MH → Out} {m : Nat} {it : It} (hn : nx it h = some (none, h1)) : forL nx body (m + 1) it fr h = some (.nxt, fr, h1) := bnd_of hn rfl
theorem for_go {nx : It → MH → Option (Option (V × It) × MH)} {body : V → Fr → MH → Out} {m : Nat} {it it' : It} (hn : nx it h = some (some (v, it'), h1)) (hb : body v fr h1 = some (.nxt, fr1, h2)) : forL nx body (m + 1) it fr h = forL nx body m it' fr1 h2 := bnd_of hn (bnd_of hb rfl)
theorem x_for {it : E} {tg : Tg} {vi : V} {j : It} (hi : fE G C n it fr h = some (vi, h1)) (hj : iterOf vi h1 = some j) (hl : forL (nextI C) (fun v fr h => (stT tg v fr h).bind fun q => fSs G C n b q.1 q.2) n j fr h1 = r) : fS G C n (.forr tg it b) fr h = r := bnd_of hi (bnd_of hj hl)
theorem rit_next {i l j : Nat} {vs : List V} (hi : h[i]? = some (.rit l (((j + 1 : Nat) : Int) - 1))) (hl : h[l]? = some (.list vs)) (hv : vs[j]? = some v) : nextI C (.obj i) h = some (some (v, .obj i), h.set i (.rit l ((j : Int) - 1))) := by
  have e : ((j + 1 : Nat) : Int) - 1 = .ofNat j := by rw [Int.natCast_succ]; exact Int.add_sub_cancel _ _
  rw [e] at hi
  exact (onL_of hi).trans ((onLst_of hl).trans (onL_of hv))
theorem rit_end {i l : Nat} (hi : h[i]? = some (.rit l (((0 : Nat) : Int) - 1))) : nextI C (.obj i) h = some (none, h) := onL_of hi
theorem m_append {i : Nat} {vs : List V} (hl : listAt h i = some vs) (hs : vs.length ≤ 16777215) : biM 1 (.ref i) [v] h = some (.none, h.set i (.list (vs ++ [v]))) := by
  show onL (listAt h i) (fun vs => if vs.length ≤ 16777215 then some (V.none, h.set i (.list (vs ++ [v]))) else none) = _
  rw [hl]; exact if_pos hs
theorem m_reverse {i : Nat} {vs : List V} (hl : listAt h i = some vs) (hs : vs.length ≤ 16777215) : biM 3 (.ref i) [] h = some (.none, h.set i (.list vs.reverse)) := by
  show onL (listAt h i) (fun vs => if vs.length ≤ 16777215 then some (V.none, h.set i (.list vs.reverse)) else none) = _
  rw [hl]; exact if_pos hs
theorem x_bind {tg : Nat} (k : fSs G C n b ⟨put fr.loc tg v, fr.cel⟩ h = r) : ((stT (.loc tg) v fr h).bind fun q => fSs G C n b q.1 q.2) = r := k
end
end Rz
end P3
section P4
open PySem PySem.W PySem.Calls PyProof.Rows
namespace Rz
set_option linter.unusedVariables false
set_option linter.unusedSimpArgs false
set_option maxRecDepth 100000
/-! bits -/
theorem p2pos (k : Nat) : (0 : Int) < 2 ^ k := kbt_pos k
theorem bor_pp {x y : Int} (hx : 0 ≤ x) (hy : 0 ≤ y) : Builtin.bitOr x y = ((x.toNat ||| y.toNat : Nat) : Int) := by
  have h1 : Builtin.bitNot (Builtin.bitNot x) = x := by unfold Builtin.bitNot; (first | lia | omega)
  have h2 : Builtin.bitNot (Builtin.bitNot y) = y := by unfold Builtin.bitNot; (first | lia | omega)
  have e1 : decide (0 ≤ Builtin.bitNot x) = false := decide_eq_false (by unfold Builtin.bitNot; (first | lia | omega))
  have e2 : decide (0 ≤ Builtin.bitNot y) = false := decide_eq_false (by unfold Builtin.bitNot; (first | lia | omega))
  unfold Builtin.bitOr Builtin.bitAnd
  rw [e1, e2]
  dsimp only
  rw [h1, h2]
  unfold Builtin.bitNot
  (first | lia | omega)
theorem toNat_shl {x : Int} (hx : 0 ≤ x) (k : Nat) : (x * 2 ^ k).toNat = 2 ^ k * x.toNat := by
  obtain ⟨m, rfl⟩ := Int.eq_ofNat_of_zero_le hx
  rw [Int.toNat_natCast, ← kbt_cast, ← Int.natCast_mul, Int.toNat_natCast, Nat.mul_comm]
theorem bor_shl {x y : Int} {k : Nat} (hx : 0 ≤ x) (hy : 0 ≤ y) (hl : y < 2 ^ k) : Builtin.bitOr (x * 2 ^ k) y = x * 2 ^ k + y := by
  have h0 : 0 ≤ x * 2 ^ k := Int.mul_nonneg hx (Int.le_of_lt (p2pos k))
  have hl' : y.toNat < 2 ^ k := by have := kbt_cast k; (first | lia | omega)
  rw [bor_pp h0 hy, toNat_shl hx, ← Nat.two_pow_add_eq_or_of_lt hl', ← toNat_shl hx, Int.natCast_add, Int.toNat_of_nonneg h0, Int.toNat_of_nonneg hy]
theorem fd {a b : Int} (hb : 0 ≤ b) : a.fdiv b = a / b := Int.fdiv_eq_ediv_of_nonneg a hb
theorem fm {a b : Int} (hb : 0 ≤ b) : a.fmod b = a % b := Int.fmod_eq_emod_of_nonneg a hb
theorem bxor_low {x : Int} {k : Nat} (hx : 0 ≤ x) : Builtin.bitXor x (x / 2 ^ k * 2 ^ k) = x % 2 ^ k := by
  have hq : 0 ≤ x / 2 ^ k := Int.ediv_nonneg hx (Int.le_of_lt (p2pos k))
  have h0 : 0 ≤ x / 2 ^ k * 2 ^ k := Int.mul_nonneg hq (Int.le_of_lt (p2pos k))
  have hr := Int.emod_nonneg x (Int.ne_of_gt (p2pos k))
  have hr2 := Int.emod_lt_of_pos x (p2pos k)
  have hd := Int.emod_def x (2 ^ k)
  have hx' : x = x / 2 ^ k * 2 ^ k + x % 2 ^ k := by rw [Int.mul_comm]; (first | lia | omega)
  have hor : x.toNat = (x / 2 ^ k * 2 ^ k).toNat ||| (x % 2 ^ k).toNat := by
    have := bor_shl hq hr hr2
    rw [← hx', bor_pp h0 hr] at this
    (first | lia | omega)
  have hand : x.toNat &&& (x / 2 ^ k * 2 ^ k).toNat = (x / 2 ^ k * 2 ^ k).toNat := by
    rw [hor]
    apply Nat.eq_of_testBit_eq
    intro i
    simp only [Nat.testBit_and, Nat.testBit_or]
    cases ((x / 2 ^ k * 2 ^ k).toNat).testBit i <;> simp
  rw [bitXor_and, bitAnd_pp hx h0, hand, Int.toNat_of_nonneg h0]
  (first | lia | omega)
theorem bits_le {a : Int} {k : Nat} (h0 : 0 ≤ a) (h : a < 2 ^ k) : Builtin.Int.intBits a ≤ k := by
  unfold Builtin.Int.intBits
  by_cases hz : a = 0
  · subst hz; simp
  · rw [if_neg (by simpa using hz)]
    have hn : a.natAbs ≠ 0 := by (first | lia | omega)
    have : a.natAbs < 2 ^ k := by have := kbt_cast k; (first | lia | omega)
    exact (Nat.log2_lt hn).mpr this
theorem bits_lt {a : Int} {k : Nat} (h0 : 0 ≤ a) (h : Builtin.Int.intBits a ≤ k) : a < 2 ^ k := by
  unfold Builtin.Int.intBits at h
  have := kbt_cast k
  have := p2pos k
  by_cases hz : a = 0
  · (first | lia | omega)
  · rw [if_neg (by simpa using hz)] at h
    have hn : a.natAbs ≠ 0 := by (first | lia | omega)
    have : a.natAbs < 2 ^ k := (Nat.log2_lt hn).mp h
    (first | lia | omega)
theorem bits_eq {a : Int} {k : Nat} (h : 2 ^ k ≤ a) (h2 : a < 2 ^ (k + 1)) : Builtin.Int.intBits a = k + 1 := by
  have h0 := p2pos k
  refine Nat.le_antisymm (bits_le (by (first | lia | omega)) h2) ?_
  refine Nat.not_lt.mp fun q => ?_
  have := bits_lt (by (first | lia | omega)) (Nat.le_of_lt_succ q)
  (first | lia | omega)
theorem bits_abs (a : Int) : Builtin.Int.intBits a = Builtin.Int.intBits (a.natAbs : Int) := by
  unfold Builtin.Int.intBits
  by_cases hz : a = 0
  · subst hz; rfl
  · rw [if_neg (by simpa using hz), if_neg (by simpa using hz), Int.natAbs_natCast]
theorem mulOk_of {a b : Int} {k l : Nat} (ha : a.natAbs < 2 ^ k) (hb : b.natAbs < 2 ^ l) (h : k + l ≤ 134217728) : mulOk a b = true := by
  have cast : ∀ (c : Int) (m : Nat), c.natAbs < 2 ^ m → Builtin.Int.intBits c ≤ m := fun c m hc => by
    rw [bits_abs]
    exact bits_le (Int.natCast_nonneg _) (by have := kbt_cast m; (first | lia | omega))
  have h1 := cast a k ha
  have h2 := cast b l hb
  unfold mulOk
  have : Builtin.Int.intTooBig ((Builtin.Int.intBits a : Int) + (Builtin.Int.intBits b : Int)) = false := by
    unfold Builtin.Int.intTooBig
    refine decide_eq_false ?_
    have : bitsLine = 134217728 := rfl
    (first | lia | omega)
  rw [this]
  simp
theorem mulOk_nn {a b : Int} {k l : Nat} (a0 : 0 ≤ a) (ha : a < 2 ^ k) (b0 : 0 ≤ b) (hb : b < 2 ^ l) (h : k + l ≤ 134217728) : mulOk a b = true :=
  mulOk_of (k := k) (l := l) (by have := kbt_cast k; (first | lia | omega)) (by have := kbt_cast l; (first | lia | omega)) h
theorem noPy {a b : Int} {n k : Nat} (hb : 2 ^ n ≤ b) (ha : a < 2 ^ (n + k)) (h0 : 0 ≤ a) (hk : k ≤ 4400) : Builtin.divisionGoesByPylong a b = false := by
  have hbp := p2pos n
  have hlb : n ≤ b.natAbs.log2 := by
    have : 2 ^ n ≤ b.natAbs := by have := kbt_cast n; (first | lia | omega)
    exact (Nat.le_log2 (by (first | lia | omega))).mpr this
  by_cases hz : a = 0
  · subst hz
    unfold Builtin.divisionGoesByPylong
    simp
  have hla : a.natAbs.log2 < n + k := (Nat.log2_lt (by (first | lia | omega))).mpr (by have := kbt_cast (n + k); (first | lia | omega))
  unfold Builtin.divisionGoesByPylong
  have hbz : ¬ (b == 0) = true := by simp; (first | lia | omega)
  have haz : ¬ (a == 0) = true := by simpa using hz
  have : ¬ (a.natAbs.log2 / 30 + 1 > b.natAbs.log2 / 30 + 1 + 150) := by (first | lia | omega)
  simp only [if_neg hbz, if_neg haz, decide_eq_false this, Bool.and_false]
section
variable {G : Gl} {C : Call} {n : Nat} {fr : Fr} {h h1 h2 : MH} {a b : E} {x y z : Int} {k m : Nat}
theorem y_shrE (k : Nat) (ha : fE G C n a fr h = some (.int x, h1)) (hb : fE G C n b fr h1 = some (.int k, h2)) (hr : x / 2 ^ k = z) : fE G C n (.bin .RShift a b) fr h = some (.int z, h2) := by
  rw [y_shr ha hb (Int.natCast_nonneg k), Int.toNat_natCast, fd (Int.le_of_lt (p2pos k)), hr]
theorem y_shlE (k m : Nat) (ha : fE G C n a fr h = some (.int x, h1)) (hb : fE G C n b fr h1 = some (.int k, h2)) (h0 : 0 ≤ x) (hx : x < 2 ^ m) (hs : m + k ≤ 134217728) (hr : x * 2 ^ k = z) : fE G C n (.bin .LShift a b) fr h = some (.int z, h2) := by
  have := bits_le h0 hx
  rw [y_shl ha hb (Int.natCast_nonneg k) (by (first | lia | omega)), Int.toNat_natCast, hr]
theorem y_addE (ha : fE G C n a fr h = some (.int x, h1)) (hb : fE G C n b fr h1 = some (.int y, h2)) (hr : x + y = z) : fE G C n (.bin .Add a b) fr h = some (.int z, h2) := hr ▸ y_bin ha hb rfl
theorem y_subE (ha : fE G C n a fr h = some (.int x, h1)) (hb : fE G C n b fr h1 = some (.int y, h2)) (hr : x - y = z) : fE G C n (.bin .Sub a b) fr h = some (.int z, h2) := hr ▸ y_bin ha hb rfl
theorem y_mulE (ha : fE G C n a fr h = some (.int x, h1)) (hb : fE G C n b fr h1 = some (.int y, h2)) (hm : mulOk x y = true) (hr : x * y = z) : fE G C n (.bin .Mult a b) fr h = some (.int z, h2) := hr ▸ y_mul ha hb hm
theorem y_andE (ha : fE G C n a fr h = some (.int x, h1)) (hb : fE G C n b fr h1 = some (.int y, h2)) (hr : Builtin.bitAnd x y = z) : fE G C n (.bin .BitAnd a b) fr h = some (.int z, h2) := hr ▸ y_bin ha hb rfl
theorem y_orE (ha : fE G C n a fr h = some (.int x, h1)) (hb : fE G C n b fr h1 = some (.int y, h2)) (hr : Builtin.bitOr x y = z) : fE G C n (.bin .BitOr a b) fr h = some (.int z, h2) := hr ▸ y_bin ha hb rfl
theorem y_xorE (ha : fE G C n a fr h = some (.int x, h1)) (hb : fE G C n b fr h1 = some (.int y, h2)) (hr : Builtin.bitXor x y = z) : fE G C n (.bin .BitXor a b) fr h = some (.int z, h2) := hr ▸ y_bin ha hb rfl
end
end Rz
end P4
section P5
open PySem PySem.W PySem.Calls PyProof.Rows
namespace Rz
set_option linter.unusedVariables false
set_option linter.unusedSimpArgs false
set_option maxRecDepth 100000
section
variable {G : Gl} {C : Call} {n : Nat} {cs : List Nat} {args : List V} {H H1 H2 : MH} {fr1 fr2 : Fr} {v : V} {D : MDef} {ss : Ss}
theorem fDef_ret (hb : D.body = .stmts ss) (hp : stTs D.ps args ⟨[], zipN D.cells H.length ++ D.fv.zip cs⟩ (H ++ D.cells.map fun _ => .cell none) = some (fr1, H1)) (h : fSs G C n ss fr1 H1 = some (.ret v, fr2, H2)) : runDef G C n D cs args H = some (v, H2) := bnd_of hp (by rw [hb]; exact bnd_of h rfl)
theorem fDef_nxt (hb : D.body = .stmts ss) (hp : stTs D.ps args ⟨[], zipN D.cells H.length ++ D.fv.zip cs⟩ (H ++ D.cells.map fun _ => .cell none) = some (fr1, H1)) (h : fSs G C n ss fr1 H1 = some (.nxt, fr2, H2)) : runDef G C n D cs args H = some (.none, H2) := bnd_of hp (by rw [hb]; exact bnd_of h rfl)
end
/-- _div2n1n and _div3n2n divide -/
noncomputable def D21 (C : Call) (n : Nat) : Prop := ∀ a b : Int, 0 ≤ a → a < b * 2 ^ n → 2 ^ (n - 1) ≤ b → b < 2 ^ n → ∀ H, C (.con 12) [.int a, .int b, .int n] H = some (.tup [.int (a / b), .int (a % b)], H)
noncomputable def D32 (C : Call) (n : Nat) : Prop := ∀ a12 a3 b b1 b2 : Int, b1 * 2 ^ n + b2 = b → 0 ≤ a12 → a12 < b → 0 ≤ a3 → a3 < 2 ^ n → 2 ^ (n - 1) ≤ b1 → b1 < 2 ^ n → 0 ≤ b2 → b2 < 2 ^ n → ∀ H,
  C (.con 13) [.int a12, .int a3, .int b, .int b1, .int b2, .int n] H = some (.tup [.int ((a12 * 2 ^ n + a3) / b), .int ((a12 * 2 ^ n + a3) % b)], H)
theorem p2add (i j : Nat) : (2 : Int) ^ (i + j) = 2 ^ i * 2 ^ j := Int.pow_add ..
theorem p2le {i j : Nat} (h : i ≤ j) : (2 : Int) ^ i ≤ 2 ^ j := by
  have := Nat.pow_le_pow_right (show 0 < 2 by (first | lia | omega)) h
  rw [← kbt_cast, ← kbt_cast]
  (first | lia | omega)
theorem d21_direct (d : Nat) {n : Nat} (hn : 1 ≤ n) {a b : Int} (h0 : 0 ≤ a) (h2 : 2 ^ (n - 1) ≤ b) (hs : (Builtin.Int.intBits a : Int) - n ≤ 4000) (H : MH) : CI (d + 1) (.con 12) [.int a, .int b, .int n] H = some (.tup [.int (a / b), .int (a % b)], H) := by
  have hb := p2pos (n - 1)
  have ha := bits_lt h0 (show Builtin.Int.intBits a ≤ n - 1 + 4001 by (first | lia | omega))
  have hp : Builtin.divisionGoesByPylong a b = false := noPy h2 ha h0 (by (first | lia | omega))
  have hq : ∀ h, primV .divmod [.int a, .int b] h = some (.tup [.int (a / b), .int (a % b)], h) := fun h => by
    rw [p_divmod, if_pos ⟨by (first | lia | omega), hp⟩, fd (by (first | lia | omega)), fm (by (first | lia | omega))]
  exact pure_call (D := d_div2n1n) (by rfl) (by rfl) (by rfl) (by rfl) (fDef_ret rfl rfl (x_stop (x_if (t_le_t (y_bin (y_bi (y_loc rfl) rfl rfl rfl) (y_loc rfl) rfl) (y_glb rfl) hs) (x_ret (y_prim (y_cons (y_loc rfl) (y_cons (y_loc rfl) y_nil)) (hq _)))))) H
theorem d21_small (d : Nat) {n : Nat} (hn : 1 ≤ n) (hn2 : n ≤ 4000) : D21 (CI (d + 1)) n := by
  intro a b h0 h1 h2 h3 H
  have ha : a < 2 ^ (n + n) := by
    rw [p2add]; exact Int.lt_trans h1 (Int.mul_lt_mul_of_pos_right h3 (p2pos n))
  have hbits := bits_le h0 ha
  exact d21_direct d hn h0 h2 (by (first | lia | omega)) H
noncomputable def bodyS (D : MDef) : Ss := match D.body with
  | .stmts ss => ss
  | .expr _ => .nil
/-- the loop that mends the quotient -/
theorem mend {G : Gl} {C : Call} {b : Int} {h : MH} (hb : 0 < b) : ∀ (k : Nat) {m : Nat} {q r : Int} {fr : Fr}, k < m → -(k * b) ≤ r → r < b → lk fr.loc 44 = some (.int q) → lk fr.loc 34 = some (.int r) → lk fr.loc 32 = some (.int b) →
    ∃ fr', whlL (fT G C 200 (.cmp .Lt (.loc 34) (.lit (.int 0)))) (fSs G C 200 (.cons (.aug (.loc 44) .Sub (.lit (.int 1))) (.cons (.aug (.loc 34) .Add (.loc 32)) .nil))) m fr h = some (.nxt, fr', h) ∧ fr'.cel = fr.cel ∧
      lk fr'.loc 44 = some (.int ((q * b + r) / b)) ∧ lk fr'.loc 34 = some (.int ((q * b + r) % b)) := by
  have base : ∀ {m : Nat} {q r : Int} {fr : Fr}, 0 < m → 0 ≤ r → r < b → lk fr.loc 44 = some (.int q) → lk fr.loc 34 = some (.int r) →
    ∃ fr', whlL (fT G C 200 (.cmp .Lt (.loc 34) (.lit (.int 0)))) (fSs G C 200 (.cons (.aug (.loc 44) .Sub (.lit (.int 1))) (.cons (.aug (.loc 34) .Add (.loc 32)) .nil))) m fr h = some (.nxt, fr', h) ∧ fr'.cel = fr.cel ∧
      lk fr'.loc 44 = some (.int ((q * b + r) / b)) ∧ lk fr'.loc 34 = some (.int ((q * b + r) % b)) := by
    intro m q r fr hm h0 h1 e1 e2
    obtain ⟨m, rfl⟩ := fuel hm
    obtain ⟨u1, u2⟩ := kbt_unique (a := q * b + r) (q := q) (r := r) hb (by rw [Int.mul_comm]; (first | lia | omega)) h0 h1
    exact ⟨fr, whl_stop (t_lt_f (y_loc e2) rfl (by (first | lia | omega))), rfl, by rw [u1]; exact e1, by rw [u2]; exact e2⟩
  intro k
  induction k with
  | zero =>
    intro m q r fr hm h0 h1 e1 e2 e3
    exact base (by (first | lia | omega)) (by simpa using h0) h1 e1 e2
  | succ k ih =>
    intro m q r fr hm h0 h1 e1 e2 e3
    by_cases hr : 0 ≤ r
    · exact base (by (first | lia | omega)) hr h1 e1 e2
    · obtain ⟨m, rfl⟩ := fuel hm
      have e2' : lk (put fr.loc 44 (V.int (q - 1))) 34 = some (.int r) := by rw [lk_put]; exact e2
      have e3' : lk (put fr.loc 44 (V.int (q - 1))) 32 = some (.int b) := by rw [lk_put]; exact e3
      have hk : ((k + 1 : Nat) : Int) * b = k * b + b := by rw [Int.natCast_succ, Int.add_mul, Int.one_mul]
      obtain ⟨fr', w1, w2, w3, w4⟩ := ih (m := m) (q := q - 1) (r := r + b) (fr := ⟨put (put fr.loc 44 (.int (q - 1))) 34 (.int (r + b)), fr.cel⟩) (by (first | lia | omega)) (by (first | lia | omega)) (by (first | lia | omega)) (by simp only [lk_put]; rfl) (by simp only [lk_put]; rfl) (by simp only [lk_put]; exact e3)
      have hq : (q - 1) * b + (r + b) = q * b + r := by rw [Int.sub_mul, Int.one_mul]; (first | lia | omega)
      rw [hq] at w3 w4
      exact ⟨fr', (whl_go (t_lt_t (y_loc e2) rfl (by (first | lia | omega))) (x_cons (x_aug e1 rfl rfl) (x_cons (x_aug e2' (y_loc e3') rfl) rfl))).trans w1, w2, w3, w4⟩
theorem d32_step (d : Nat) {n : Nat} (hn : 1 ≤ n) (hn2 : n ≤ 20000) (ih : D21 (CI d) n) : D32 (CI (d + 1)) n := by
  intro a12 a3 b b1 b2 hb h1 h2 h3 h4 h5 h6 h7 h8 H
  have pn := p2pos n
  have pm := p2pos (n - 1)
  have pp : (2 : Int) ^ n = 2 * 2 ^ (n - 1) := by rw [show n = n - 1 + 1 by (first | lia | omega), Int.pow_succ, Nat.add_sub_cancel, Int.mul_comm]
  have hb1 : b < 2 ^ (n + n) := by
    rw [← hb]
    have := Int.mul_le_mul_of_nonneg_right (show b1 ≤ 2 ^ n - 1 by (first | lia | omega)) (Int.le_of_lt pn)
    rw [Int.sub_mul, Int.one_mul] at this
    rw [p2add]; (first | lia | omega)
  have hb0 : 2 ^ n ≤ b1 * 2 ^ n := by
    have := Int.mul_le_mul_of_nonneg_right (show 1 ≤ b1 by (first | lia | omega)) (Int.le_of_lt pn)
    rw [Int.one_mul] at this; exact this
  have ha12 : a12 < 2 ^ (n + n) := Int.lt_trans h2 hb1
  -- the first quotient
  have s1 : ∃ q r : Int, a12 = q * b1 + r ∧ 0 ≤ r ∧ 0 ≤ q ∧ q < 2 ^ n ∧ r < 2 ^ (n + n) ∧ (q * b1 + r) * 2 ^ n + a3 < (q + 1) * b ∧
      ∀ h, fS GG (CI d) 200 (.ife (.cmp .Eq (.bin .RShift (.loc 42) (.loc 33)) (.loc 40)) (.cons (.asgT [.loc 44, .loc 34] (.tup (.cons (.bin .Sub (.bin .LShift (.lit (.int 1)) (.loc 33)) (.lit (.int 1))) (.cons (.bin .Add (.bin .Sub (.loc 42) (.bin .LShift (.loc 40) (.loc 33))) (.loc 40)) (.nil))))) (.nil)) (.cons (.asgT [.loc 44, .loc 34] (.call (.glb 12) (.cons (.loc 42) (.cons (.loc 40) (.cons (.loc 33) (.nil)))))) (.nil)))
        ⟨[(42, .int a12), (43, .int a3), (32, .int b), (40, .int b1), (39, .int b2), (33, .int n)], []⟩ h = some (.nxt, ⟨[(42, .int a12), (43, .int a3), (32, .int b), (40, .int b1), (39, .int b2), (33, .int n), (44, .int q), (34, .int r)], []⟩, h) := by
    have hm := Int.emod_nonneg a12 (Int.ne_of_gt pn)
    have hm2 := Int.emod_lt_of_pos a12 pn
    have hd := Int.emod_def a12 (2 ^ n)
    by_cases hc : a12 / 2 ^ n = b1
    · refine ⟨2 ^ n - 1, a12 - b1 * 2 ^ n + b1, ?_, ?_, by (first | lia | omega), by (first | lia | omega), ?_, ?_, fun h => ?_⟩
      · rw [Int.sub_mul, Int.one_mul, Int.mul_comm]; (first | lia | omega)
      · rw [hc, Int.mul_comm] at hd; (first | lia | omega)
      · (first | lia | omega)
      · have e : (2 ^ n - 1) * b1 + (a12 - b1 * 2 ^ n + b1) = a12 := by rw [Int.sub_mul, Int.one_mul, Int.mul_comm]; (first | lia | omega)
        rw [e, Int.sub_add_cancel]
        have := Int.mul_le_mul_of_nonneg_right (show a12 ≤ b - 1 by (first | lia | omega)) (Int.le_of_lt pn)
        rw [Int.sub_mul, Int.one_mul, Int.mul_comm b] at this
        (first | lia | omega)
      · exact x_if (t_eq_t (y_shrE n (y_loc rfl) (y_loc rfl) rfl) (y_loc rfl) hc) (x_cons (x_asg2 (y_tup (y_cons (y_subE (y_shlE n 1 rfl (y_loc rfl) (by decide) (by decide) (by (first | lia | omega)) rfl) rfl (by rw [Int.one_mul])) (y_cons (y_addE (y_subE (y_loc rfl) (y_shlE n n (y_loc rfl) (y_loc rfl) (by (first | lia | omega)) h6 (by (first | lia | omega)) rfl) rfl) (y_loc rfl) rfl) y_nil)) (Nat.le_of_ble_eq_true rfl))) rfl)
    · have hlt : a12 < b1 * 2 ^ n := by
        refine Int.not_le.mp fun q => hc ?_
        refine (kbt_unique (r := a12 - 2 ^ n * b1) pn (by (first | lia | omega)) (by rw [Int.mul_comm]; (first | lia | omega)) ?_).1
        rw [Int.mul_comm]; (first | lia | omega)
      have hd2 := Int.emod_def a12 b1
      have hr := Int.emod_nonneg a12 (show b1 ≠ 0 by (first | lia | omega))
      have hr2 := Int.emod_lt_of_pos a12 (show 0 < b1 by (first | lia | omega))
      have hq : a12 / b1 < 2 ^ n := Int.ediv_lt_of_lt_mul (by (first | lia | omega)) (by rw [Int.mul_comm]; exact hlt)
      refine ⟨a12 / b1, a12 % b1, by rw [Int.mul_comm]; (first | lia | omega), hr, Int.ediv_nonneg h1 (by (first | lia | omega)), hq, ?_, ?_, fun h => ?_⟩
      · have := p2le (show n ≤ n + n by (first | lia | omega)); (first | lia | omega)
      · have e1 : (a12 / b1 * b1 + a12 % b1) * 2 ^ n = a12 / b1 * (b1 * 2 ^ n) + a12 % b1 * 2 ^ n := by rw [Int.add_mul, Int.mul_assoc]
        have e2 : (a12 / b1 + 1) * b = a12 / b1 * (b1 * 2 ^ n) + a12 / b1 * b2 + b := by rw [Int.add_mul, Int.one_mul, ← hb, Int.mul_add]
        have e3 := Int.mul_nonneg (Int.ediv_nonneg h1 (show 0 ≤ b1 by (first | lia | omega))) h7
        have e4 := Int.mul_le_mul_of_nonneg_right (show a12 % b1 ≤ b1 - 1 by (first | lia | omega)) (Int.le_of_lt pn)
        rw [Int.sub_mul, Int.one_mul] at e4
        (first | lia | omega)
      · exact x_else (t_eq_f (y_shrE n (y_loc rfl) (y_loc rfl) rfl) (y_loc rfl) hc) (x_cons (x_asg2 (y_call (y_glb rfl) (y_cons (y_loc rfl) (y_cons (y_loc rfl) (y_cons (y_loc rfl) y_nil))) (ih a12 b1 h1 hlt h5 h6 h))) rfl)
  obtain ⟨q, r, e1, r0, q0, q1, r1, rb, s1⟩ := s1
  have hR : (q * b1 + r) * 2 ^ n + a3 = q * b + (r * 2 ^ n + a3 - q * b2) := by
    rw [← hb, Int.mul_add, Int.add_mul, Int.mul_assoc]; (first | lia | omega)
  have hlow : -(((2 : Nat) : Int) * b) ≤ r * 2 ^ n + a3 - q * b2 := by
    have g1 := Int.mul_le_mul (show q ≤ 2 ^ n by (first | lia | omega)) (show b2 ≤ 2 ^ n by (first | lia | omega)) h7 (Int.le_of_lt pn)
    have g2 := Int.mul_nonneg r0 (Int.le_of_lt pn)
    have g3 := Int.mul_le_mul_of_nonneg_right h5 (Int.le_of_lt pn)
    have g4 : 2 ^ n * 2 ^ n = 2 * (2 ^ (n - 1) * 2 ^ n : Int) := by rw [← Int.mul_assoc, ← pp]
    (first | lia | omega)
  have hup : r * 2 ^ n + a3 - q * b2 < b := by
    rw [hR, Int.add_mul, Int.one_mul] at rb; (first | lia | omega)
  have hbp : 0 < b := by (first | lia | omega)
  obtain ⟨fr', w1, w2, w3, w4⟩ := mend (G := GG) (C := CI d) (h := []) hbp 2 (m := 200) (q := q) (r := r * 2 ^ n + a3 - q * b2) (fr := ⟨[(42, .int a12), (43, .int a3), (32, .int b), (40, .int b1), (39, .int b2), (33, .int n), (44, .int q), (34, .int (r * 2 ^ n + a3 - q * b2))], []⟩) (by decide) hlow hup rfl rfl rfl
  rw [← hR, ← e1] at w3 w4
  exact pure_call (D := d_div3n2n) (by rfl) (by rfl) (by rfl) (by rfl) (fDef_ret rfl rfl (x_cons (s1 _) (x_cons (x_asg (y_subE (y_orE (y_shlE n (n + n) (y_loc rfl) (y_loc rfl) r0 r1 (by (first | lia | omega)) rfl) (y_loc rfl) (bor_shl r0 h3 h4)) (y_mulE (y_loc rfl) (y_loc rfl) (mulOk_nn q0 q1 h7 h8 (by (first | lia | omega))) rfl) rfl)) (x_cons (x_whl w1) (x_ret (y_tup (y_cons (y_loc w3) (y_cons (y_loc w4) y_nil)) (Nat.le_of_ble_eq_true rfl))))))) H
end Rz
end P5
section P6
open PySem PySem.W PySem.Calls PyProof.Rows
namespace Rz
set_option linter.unusedVariables false
set_option linter.unusedSimpArgs false
set_option maxRecDepth 100000
theorem div_add_mod (x y : Int) : x / y * y + x % y = x := by have := Int.emod_def x y; rw [Int.mul_comm]; (first | lia | omega)
theorem d21_tail {d half p : Nat} {a b : Int} (hh : 1 ≤ half) (hh2 : half ≤ 20000) (hp : p = 0 ∨ p = 1) (ih : D32 (CI d) half) (h0 : 0 ≤ a) (h1 : a < b * 2 ^ (2 * half)) (h2 : 2 ^ (2 * half - 1) ≤ b) (h3 : b < 2 ^ (2 * half)) :
    ∃ fr', fSs GG (CI d) 200 (dropS 3 (bodyS d_div2n1n)) ⟨[(31, .int a), (32, .int b), (33, .int (2 * half : Nat)), (38, .int p)], []⟩ [] = some (.ret (.tup [.int (a / b), .int (a % b / 2 ^ p)]), fr', []) := by
  have ph := p2pos half
  have ph2 := p2pos (2 * half)
  have e2 : (2 : Int) ^ (2 * half) = 2 ^ half * 2 ^ half := by rw [show 2 * half = half + half by (first | lia | omega), p2add]
  have eh : ((2 * half : Nat) : Int) / 2 ^ 1 = half := by (first | lia | omega)
  have hbp : 0 < b := by have := p2pos (2 * half - 1); (first | lia | omega)
  have hx0 : 0 ≤ a / 2 ^ half := Int.ediv_nonneg h0 (Int.le_of_lt ph)
  have hl0 := Int.emod_nonneg a (Int.ne_of_gt ph)
  have hl1 := Int.emod_lt_of_pos a ph
  have hm0 := Int.emod_nonneg (a / 2 ^ half) (Int.ne_of_gt ph)
  have hm1 := Int.emod_lt_of_pos (a / 2 ^ half) ph
  have hb0 := Int.emod_nonneg b (Int.ne_of_gt ph)
  have hb1 := Int.emod_lt_of_pos b ph
  have ebb := div_add_mod b (2 ^ half)
  have eaa := div_add_mod a (2 ^ half)
  have exx := div_add_mod (a / 2 ^ half) (2 ^ half)
  have eq : a / 2 ^ half / 2 ^ half = a / 2 ^ (2 * half) := by rw [Int.ediv_ediv_of_nonneg (Int.le_of_lt ph), ← e2]
  have ha12 : a / 2 ^ (2 * half) < b := Int.ediv_lt_of_lt_mul ph2 h1
  have ha120 : 0 ≤ a / 2 ^ (2 * half) := Int.ediv_nonneg h0 (Int.le_of_lt ph2)
  have hbl : 2 ^ (half - 1) ≤ b / 2 ^ half := by
    refine Int.le_ediv_of_mul_le ph ?_
    rw [← p2add, show half - 1 + half = 2 * half - 1 by (first | lia | omega)]; exact h2
  have hbu : b / 2 ^ half < 2 ^ half := Int.ediv_lt_of_lt_mul ph (by rw [← e2]; exact h3)
  -- the two calls
  have c1 := ih (a / 2 ^ (2 * half)) (a / 2 ^ half % 2 ^ half) b (b / 2 ^ half) (b % 2 ^ half) ebb ha120 ha12 hm0 hm1 hbl hbu hb0 hb1
  rw [← eq, exx] at c1
  have r0 := Int.emod_nonneg (a / 2 ^ half) (Int.ne_of_gt hbp)
  have r1 := Int.emod_lt_of_pos (a / 2 ^ half) hbp
  have c2 := ih (a / 2 ^ half % b) (a % 2 ^ half) b (b / 2 ^ half) (b % 2 ^ half) ebb r0 r1 hl0 hl1 hbl hbu hb0 hb1
  have q0 : 0 ≤ a / 2 ^ half / b := Int.ediv_nonneg hx0 (Int.le_of_lt hbp)
  have ha4 : a < 2 ^ (2 * half + 2 * half) := by rw [p2add]; exact Int.lt_trans h1 (Int.mul_lt_mul_of_pos_right h3 ph2)
  have q1 : a / 2 ^ half / b < 2 ^ (2 * half + 2 * half) := Int.lt_of_le_of_lt (Int.le_trans (Int.ediv_le_self _ hx0) (Int.ediv_le_self _ h0)) ha4
  have s0 := Int.add_nonneg (Int.mul_nonneg r0 (Int.le_of_lt ph)) hl0
  have s1 : a / 2 ^ half % b * 2 ^ half + a % 2 ^ half < 2 ^ half * b := by
    have := Int.mul_le_mul_of_nonneg_right (show a / 2 ^ half % b ≤ b - 1 by (first | lia | omega)) (Int.le_of_lt ph)
    rw [Int.sub_mul, Int.one_mul, Int.mul_comm b] at this
    (first | lia | omega)
  have q20 := Int.ediv_nonneg s0 (Int.le_of_lt hbp)
  have q21 := Int.ediv_lt_of_lt_mul hbp s1
  have t0 := Int.emod_nonneg (a / 2 ^ half % b * 2 ^ half + a % 2 ^ half) (Int.ne_of_gt hbp)
  have t1 := Int.emod_lt_of_pos (a / 2 ^ half % b * 2 ^ half + a % 2 ^ half) hbp
  obtain ⟨u1, u2⟩ := kbt_unique (a := a) (q := a / 2 ^ half / b * 2 ^ half + (a / 2 ^ half % b * 2 ^ half + a % 2 ^ half) / b) (r := (a / 2 ^ half % b * 2 ^ half + a % 2 ^ half) % b) hbp (by
    have g1 := div_add_mod (a / 2 ^ half % b * 2 ^ half + a % 2 ^ half) b
    have g2 := div_add_mod (a / 2 ^ half) b
    have g3 : a / 2 ^ half * 2 ^ half = a / 2 ^ half / b * 2 ^ half * b + a / 2 ^ half % b * 2 ^ half := by
      rw [Int.mul_assoc, Int.mul_comm (2 ^ half) b, ← Int.mul_assoc, ← Int.add_mul, g2]
    rw [Int.mul_comm b, Int.add_mul]
    (first | lia | omega)) t0 t1
  rw [← u2] at c2
  have main : ∀ (fr' : Fr) (z : Int), fS GG (CI d) 200 (.ife (.val (.loc 38)) (.cons (.aug (.loc 34) .RShift (.lit (.int 1))) .nil) .nil) ⟨[(31, .int a), (32, .int b), (33, .int (2 * half : Nat)), (38, .int p), (36, .int half), (41, .int (2 ^ half - 1)), (40, .int (b / 2 ^ half)), (39, .int (b % 2 ^ half)), (35, .int (a / 2 ^ half / b)), (34, .int (a % b)), (37, .int ((a / 2 ^ half % b * 2 ^ half + a % 2 ^ half) / b))], []⟩ [] = some (.nxt, ⟨[(31, .int a), (32, .int b), (33, .int (2 * half : Nat)), (38, .int p), (36, .int half), (41, .int (2 ^ half - 1)), (40, .int (b / 2 ^ half)), (39, .int (b % 2 ^ half)), (35, .int (a / 2 ^ half / b)), (34, .int (a % b / 2 ^ p)), (37, .int ((a / 2 ^ half % b * 2 ^ half + a % 2 ^ half) / b))], []⟩, []) := fun fr' z => by
    rcases hp with rfl | rfl
    · rw [show a % b / 2 ^ 0 = a % b by simp]
      exact x_skip (t_int_f (y_loc rfl) rfl)
    · refine x_if (t_int_t (y_loc rfl) (by decide)) (x_cons (x_aug rfl rfl (u := .int (a % b / 2 ^ 1)) ?_) rfl)
      rw [g_shr, if_pos (by decide), fd (by decide)]; rfl
  exact ⟨_, x_cons (x_asg (y_shrE 1 (y_loc rfl) rfl eh)) (x_cons (x_asg (y_subE (y_shlE half 1 rfl (y_loc rfl) (by decide) (by decide) (by (first | lia | omega)) rfl) rfl (by rw [Int.one_mul]))) (x_cons (x_asg2 (y_tup (y_cons (y_shrE half (y_loc rfl) (y_loc rfl) rfl) (y_cons (y_andE (y_loc rfl) (y_loc rfl) (kbt_mask b half)) y_nil)) (Nat.le_of_ble_eq_true rfl)))
    (x_cons (x_asg2 (y_call (y_glb rfl) (y_cons (y_shrE (2 * half) (y_loc rfl) (y_loc rfl) eq.symm) (y_cons (y_andE (y_shrE half (y_loc rfl) (y_loc rfl) rfl) (y_loc rfl) (kbt_mask _ half)) (y_cons (y_loc rfl) (y_cons (y_loc rfl) (y_cons (y_loc rfl) (y_cons (y_loc rfl) y_nil)))))) (c1 _)))
    (x_cons (x_asg2 (y_call (y_glb rfl) (y_cons (y_loc rfl) (y_cons (y_andE (y_loc rfl) (y_loc rfl) (kbt_mask _ half)) (y_cons (y_loc rfl) (y_cons (y_loc rfl) (y_cons (y_loc rfl) (y_cons (y_loc rfl) y_nil)))))) (c2 _)))
    (x_cons (main ⟨[], []⟩ 0) (x_ret (y_tup (y_cons (y_orE (y_shlE half (2 * half + 2 * half) (y_loc rfl) (y_loc rfl) q0 q1 (by (first | lia | omega)) rfl) (y_loc rfl) ((bor_shl q0 q20 q21).trans u1.symm)) (y_cons (y_loc rfl) y_nil)) (Nat.le_of_ble_eq_true rfl))))))))⟩
theorem a_shl1 {x : Int} {m : Nat} (h0 : 0 ≤ x) (hx : x < 2 ^ m) (hs : m ≤ 100000000) (h : MH) : augV .LShift (.int x) (.int 1) h = some (.int (x * 2 ^ 1), h) := by
  have := bits_le h0 hx
  rw [g_shl, if_pos ⟨by decide, by (first | lia | omega)⟩]; rfl
theorem d21_step (d : Nat) {n : Nat} (hn : 1 ≤ n) (hn2 : n ≤ 20000) (ih : D32 (CI d) ((n + 1) / 2)) : D21 (CI (d + 1)) n := by
  intro a b h0 h1 h2 h3 H
  by_cases hs : (Builtin.Int.intBits a : Int) - n ≤ 4000
  · exact d21_direct d hn h0 h2 hs H
  have pn := p2pos n
  have ha : a < 2 ^ (n + n) := by rw [p2add]; exact Int.lt_trans h1 (Int.mul_lt_mul_of_pos_right h3 pn)
  have hb := p2pos (n - 1)
  have t0 : ∀ h, fS GG (CI d) 200 (.ife (.cmp .LtE (.bin .Sub (.mth (.loc 31) 8 (.nil)) (.loc 33)) (.glb 11)) (.cons (.ret (.prim .divmod (.cons (.loc 31) (.cons (.loc 32) (.nil))))) (.nil)) (.nil)) ⟨[(31, .int a), (32, .int b), (33, .int n)], []⟩ h = some (.nxt, ⟨[(31, .int a), (32, .int b), (33, .int n)], []⟩, h) := fun h =>
    x_skip (t_le_f (y_bin (y_bi (y_loc rfl) rfl rfl rfl) (y_loc rfl) rfl) (y_glb rfl) hs)
  rcases Nat.mod_two_eq_zero_or_one n with hm | hm
  · obtain ⟨half, rfl⟩ : ∃ half, n = 2 * half := ⟨n / 2, by (first | lia | omega)⟩
    rw [show (2 * half + 1) / 2 = half by (first | lia | omega)] at ih
    obtain ⟨fr', e⟩ := d21_tail (p := 0) (by (first | lia | omega)) (by (first | lia | omega)) (.inl rfl) ih h0 h1 h2 h3
    rw [show a % b / 2 ^ 0 = a % b by simp] at e
    exact pure_call (D := d_div2n1n) (by rfl) (by rfl) (by rfl) (by rfl) (fDef_ret rfl rfl (x_cons (t0 _) (x_cons (x_asg (y_andE (z := ((0 : Nat) : Int)) (y_loc rfl) rfl (by rw [bitAnd_m1]; (first | lia | omega)))) (x_cons (x_skip (t_int_f (y_loc rfl) rfl)) e)))) H
  · obtain ⟨half, hf⟩ : ∃ half, n + 1 = 2 * half := ⟨(n + 1) / 2, by (first | lia | omega)⟩
    rw [show (n + 1) / 2 = half by (first | lia | omega)] at ih
    have ps : (2 : Int) ^ (2 * half) = 2 ^ n * 2 ^ 1 := by rw [← hf, p2add]
    have k1 : a * 2 ^ 1 < b * 2 ^ 1 * 2 ^ (2 * half) := by
      rw [ps, ← Int.mul_assoc]
      have : b * 2 ^ n ≤ b * 2 ^ 1 * 2 ^ n := Int.mul_le_mul_of_nonneg_right (by (first | lia | omega)) (Int.le_of_lt pn)
      exact Int.mul_lt_mul_of_pos_right (Int.lt_of_lt_of_le h1 this) (by decide)
    have k2 : 2 ^ (2 * half - 1) ≤ b * 2 ^ 1 := by
      rw [show 2 * half - 1 = n - 1 + 1 by (first | lia | omega), p2add]
      exact Int.mul_le_mul_of_nonneg_right h2 (by decide)
    have k3 : b * 2 ^ 1 < 2 ^ (2 * half) := by
      rw [ps]
      exact Int.mul_lt_mul_of_pos_right h3 (by decide)
    obtain ⟨fr', e⟩ := d21_tail (p := 1) (by (first | lia | omega)) (by (first | lia | omega)) (.inr rfl) ih (show 0 ≤ a * 2 ^ 1 by (first | lia | omega)) k1 k2 k3
    rw [show a * 2 ^ 1 / (b * 2 ^ 1) = a / b from Int.mul_ediv_mul_of_pos_left a b (by decide), show a * 2 ^ 1 % (b * 2 ^ 1) = a % b * 2 ^ 1 by rw [Int.mul_comm a, Int.mul_comm b, Int.mul_emod_mul_of_pos _ _ (by decide), Int.mul_comm], Int.mul_ediv_cancel _ (by decide)] at e
    exact pure_call (D := d_div2n1n) (by rfl) (by rfl) (by rfl) (by rfl) (fDef_ret rfl rfl (x_cons (t0 _) (x_cons (x_asg (y_andE (z := ((1 : Nat) : Int)) (y_loc rfl) rfl (by rw [bitAnd_m1]; (first | lia | omega)))) (x_cons (x_if (t_int_t (y_loc rfl) (by decide)) (x_cons (x_aug rfl rfl (a_shl1 h0 ha (by (first | lia | omega)) _)) (x_cons (x_aug rfl rfl (a_shl1 (m := n) (by (first | lia | omega)) h3 (by (first | lia | omega)) _)) (x_cons (x_aug (u := .int (2 * half : Nat)) rfl rfl (by rw [g_add, ← hf]; rfl)) rfl)))) e)))) H
theorem d21_4000 (d : Nat) {n : Nat} (h1 : 1 ≤ n) (h2 : n ≤ 4000) : D21 (CI (d + 1)) n := d21_small d h1 h2
theorem d21_8000 (d : Nat) {n : Nat} (h1 : 1 ≤ n) (h2 : n ≤ 8000) : D21 (CI (d + 3)) n := d21_step (d + 2) h1 (by (first | lia | omega)) (d32_step (d + 1) (by (first | lia | omega)) (by (first | lia | omega)) (d21_4000 d (by (first | lia | omega)) (by (first | lia | omega))))
theorem d21_16000 (d : Nat) {n : Nat} (h1 : 1 ≤ n) (h2 : n ≤ 16000) : D21 (CI (d + 5)) n := d21_step (d + 4) h1 (by (first | lia | omega)) (d32_step (d + 3) (by (first | lia | omega)) (by (first | lia | omega)) (d21_8000 d (by (first | lia | omega)) (by (first | lia | omega))))
end Rz
end P6
section P7
open PySem PySem.W PySem.Calls PyProof.Rows
namespace Rz
set_option linter.unusedVariables false
set_option linter.unusedSimpArgs false
set_option maxRecDepth 100000
/-! numbers by their figures -/
noncomputable def valD (n : Nat) : List Int → Int
  | [] => 0
  | x :: r => x + 2 ^ n * valD n r
noncomputable def Figs (n : Nat) (ds : List Int) : Prop := ∀ x ∈ ds, 0 ≤ x ∧ x < 2 ^ n
theorem valD_append (n : Nat) : ∀ xs ys : List Int, valD n (xs ++ ys) = valD n xs + 2 ^ (n * xs.length) * valD n ys
  | [], ys => by simp [valD]
  | x :: xs, ys => by
    rw [List.cons_append, valD, valD, valD_append n xs ys, List.length_cons, Nat.mul_succ, Nat.add_comm, p2add, Int.mul_add, Int.mul_assoc, Int.add_assoc]
theorem valD_bound {n : Nat} : ∀ {ds : List Int}, Figs n ds → 0 ≤ valD n ds ∧ valD n ds < 2 ^ (n * ds.length)
  | [], _ => by simp [valD]
  | x :: r, h => by
    obtain ⟨h1, h2⟩ := h x (by simp)
    obtain ⟨h3, h4⟩ := valD_bound (ds := r) fun y m => h y (by simp [m])
    have hp := p2pos n
    have g1 := Int.mul_nonneg (Int.le_of_lt hp) h3
    have g2 := Int.mul_le_mul_of_nonneg_left (show valD n r ≤ 2 ^ (n * r.length) - 1 by (first | lia | omega)) (Int.le_of_lt hp)
    rw [Int.mul_sub, Int.mul_one] at g2
    rw [valD, List.length_cons, Nat.mul_succ, Nat.add_comm, p2add]
    (first | lia | omega)
theorem Figs.sub {n : Nat} {ds es : List Int} (h : Figs n ds) (hs : ∀ x ∈ es, x ∈ ds) : Figs n es := fun x m => h x (hs x m)
noncomputable def seg (ds : List Int) (L R : Nat) : List Int := (ds.drop L).take (R - L)
theorem seg_mem {ds : List Int} {L R : Nat} : ∀ x ∈ seg ds L R, x ∈ ds := fun x m => List.mem_of_mem_drop (List.mem_of_mem_take m)
theorem seg_len {ds : List Int} {L R : Nat} (h : R ≤ ds.length) : (seg ds L R).length = R - L := by unfold seg; rw [List.length_take, List.length_drop]; (first | lia | omega)
theorem seg_cut {ds : List Int} {L M R : Nat} (h1 : L ≤ M) (h2 : M ≤ R) : seg ds L R = seg ds L M ++ seg ds M R := by
  unfold seg
  rw [show R - L = (M - L) + (R - M) by (first | lia | omega), List.take_add, List.drop_drop, show L + (M - L) = M by (first | lia | omega)]
theorem seg_one {ds : List Int} {L : Nat} {x : Int} (h : ds[L]? = some x) : seg ds L (L + 1) = [x] := by
  obtain ⟨hl, rfl⟩ := List.getElem?_eq_some_iff.mp h
  unfold seg
  rw [show L + 1 - L = 1 by (first | lia | omega), List.drop_eq_getElem_cons hl]
  rfl
theorem seg_all (ds : List Int) : seg ds 0 ds.length = ds := by unfold seg; simp
section
variable {G : Gl} {C : Call} {n : Nat} {cs : List Nat} {args : List V} {H H1 H2 : MH} {fr1 fr2 : Fr} {v : V} {D : MDef} {ss : Ss}
/-- a call without cells of its own -/
theorem fDef_ret0 (hb : D.body = .stmts ss) (hc : D.cells = []) (hp : stTs D.ps args ⟨[], D.fv.zip cs⟩ H = some (fr1, H1)) (h : fSs G C n ss fr1 H1 = some (.ret v, fr2, H2)) : runDef G C n D cs args H = some (v, H2) :=
  fDef_ret hb (by rw [hc]; show stTs _ _ _ (H ++ []) = _; rw [List.append_nil]; exact hp) h
theorem idx_ref {l k : Nat} {vs : List V} (hl : listAt H l = some vs) (hk : k < 16777216) (hv : vs[k]? = some v) : idxV (.ref l) (.int (k : Nat)) H = some v :=
  (onL_of hl).trans ((if_pos hk).trans hv)
end
theorem CI_clo (d k : Nat) (cs : List Nat) (D : MDef) (hD : DD.clo k = some D) (vs : List V) (H : MH) : CI (d + 1) (.clo k cs) vs H = runDef GG (CI d) 200 D cs vs H := onL_of hD
theorem digits_inner {ds : List Int} {n : Nat} {H : MH} {l c1 c2 c3 : Nat} (hF : Figs n ds) (hn : n ≤ 20000) (hlen : ds.length ≤ 1000)
    (h1 : H[c1]? = some (.cell (some (.ref l)))) (hl : listAt H l = some (ds.map .int)) (h2 : H[c2]? = some (.cell (some (.clo 501 [c1, c2, c3])))) (h3 : H[c3]? = some (.cell (some (.int n)))) :
    ∀ (d L R : Nat), L < R → R ≤ ds.length → R - L ≤ d → CI d (.clo 501 [c1, c2, c3]) [.int L, .int R] H = some (.int (valD n (seg ds L R)), H) := by
  intro d
  induction d with
  | zero => intro L R a b c; (first | lia | omega)
  | succ d ih =>
    intro L R a b c
    rw [CI_clo d 501 _ dClo501 (by rfl)]
    by_cases hb : L + 1 = R
    · obtain ⟨x, hx⟩ : ∃ x, ds[L]? = some x := ⟨ds[L], List.getElem?_eq_getElem (by (first | lia | omega))⟩
      have hv : (ds.map V.int)[L]? = some (.int x) := by rw [List.getElem?_map, hx]; rfl
      subst hb
      rw [seg_one hx, show valD n [x] = x by simp [valD]]
      exact fDef_ret0 rfl rfl rfl (x_stop (x_if (t_eq_t (y_bin (y_loc rfl) rfl rfl) (y_loc rfl) (by (first | lia | omega))) (x_ret (y_idx (y_cel rfl h1) (y_loc rfl) (idx_ref hl (by (first | lia | omega)) hv)))))
    · obtain ⟨M, hM⟩ : ∃ M, M = (L + R) / 2 := ⟨_, rfl⟩
      have k1 := ih M R (by (first | lia | omega)) b (by (first | lia | omega))
      have k2 := ih L M (by (first | lia | omega)) (by (first | lia | omega)) (by (first | lia | omega))
      have b1 := valD_bound (hF.sub (seg_mem (L := M) (R := R)))
      rw [seg_len b] at b1
      have b3 : n * (R - M) ≤ 20000 * 1000 := Nat.mul_le_mul hn (by (first | lia | omega))
      have b4 : (M - L) * n ≤ 1000 * 20000 := Nat.mul_le_mul (by (first | lia | omega)) hn
      have e : valD n (seg ds M R) * 2 ^ ((M - L) * n) + valD n (seg ds L M) = valD n (seg ds L R) := by
        rw [seg_cut (L := L) (M := M) (R := R) (by (first | lia | omega)) (by (first | lia | omega)), valD_append, seg_len (by (first | lia | omega)), show n * (M - L) = (M - L) * n from Nat.mul_comm _ _, Int.mul_comm (2 ^ _)]
        exact Int.add_comm _ _
      have hn15 : ((n : Nat) : Int) < 2 ^ 15 := by (first | lia | omega)
      have hm15 : ((M - L : Nat) : Int) < 2 ^ 15 := by (first | lia | omega)
      exact fDef_ret0 rfl rfl rfl (x_cons (x_skip (t_eq_f (y_bin (y_loc rfl) rfl rfl) (y_loc rfl) (by (first | lia | omega)))) (x_cons (x_asg (y_shrE (z := M) 1 (y_bin (y_loc rfl) (y_loc rfl) rfl) rfl (by (first | lia | omega))))
        (x_cons (x_asg (y_mulE (z := ((M - L) * n : Nat)) (y_subE (z := (M - L : Nat)) (y_loc rfl) (y_loc rfl) (by (first | lia | omega))) (y_cel rfl h3) (mulOk_nn (Int.natCast_nonneg _) hm15 (Int.natCast_nonneg _) hn15 (by decide)) (Int.natCast_mul _ _).symm))
          (x_ret (y_addE (y_shlE ((M - L) * n) (n * (R - M)) (y_call (y_cel rfl h2) (y_cons (y_loc rfl) (y_cons (y_loc rfl) y_nil)) k1) (y_loc rfl) b1.1 b1.2 (by (first | lia | omega)) rfl) (y_call (y_cel rfl h2) (y_cons (y_loc rfl) (y_cons (y_loc rfl) y_nil)) k2) e)))))
theorem allAtoms_ints : ∀ ds : List Int, allAtoms (ds.map .int) = true
  | [] => rfl
  | _ :: r => allAtoms_ints r
theorem eqAtom_refl {v : V} (h : atomB v = true) : eqAtom v v = true :=
  atomB_e (P := fun v => eqAtom v v = true) h (fun i => decide_eq_true rfl) (fun s _ => (natsEq_eq s s).trans (decide_eq_true rfl))
theorem eqAtoms_refl : ∀ {vs : List V}, allAtoms vs = true → eqAtoms vs vs = true
  | [], _ => rfl
  | v :: r, h => by
    rw [allAtoms_cons, Bool.and_eq_true] at h
    rw [eqAtoms_cons, eqAtom_refl h.1, eqAtoms_refl h.2]; rfl
theorem eqL_at {h : MH} {i j : Nat} {a b : List V} (hi : listAt h i = some a) (hj : listAt h j = some b) (ha : allAtoms a = true) (hb : allAtoms b = true) : eqV (.ref i) (.ref j) h = some (eqAtoms a b) := by
  refine (onL_of hi).trans ((onL_of hj).trans ?_)
  exact if_pos (by rw [ha, hb]; rfl)
/-- a pure function of a list of atoms (and atoms) that answers an atom -/
theorem sameL_of {ws : List V} {h' : MH} (hw : allAtoms ws = true) (h0 : listAt h' 0 = some ws) : sameL ws h' = true := by
  unfold sameL
  rw [h0]
  show (allAtoms ws && eqAtoms ws ws) = true
  rw [hw, eqAtoms_refl hw]; rfl
theorem pure_list {d k l : Nat} {D : MDef} {ws r : List V} {v : V} {h' H : MH} (hk : memN pureK k = true) (hD : DD.fn k = some D) (hl : listAt H l = some ws) (hw : allAtoms ws = true) (hv : r.all atomV = true) (ha : atomV v = true)
    (e : runDef GG (CI d) 200 D [] (.ref 0 :: r) [.list ws] = some (v, h')) (h0 : listAt h' 0 = some ws) : CI (d + 1) (.con k) (.ref l :: r) H = some (v, H) :=
  (CI_list hk hD hl hw hv e (sameL_of hw h0)).trans (isoOut_atom ha h' H)
theorem digits2int {ds : List Int} {n l d : Nat} {H : MH} (hF : Figs n ds) (hn : n ≤ 20000) (hlen : ds.length ≤ 1000) (hd : ds.length ≤ d) (hl : listAt H l = some (ds.map .int)) :
    CI (d + 1) (.con 15) [.ref l, .int n] H = some (.int (valD n ds), H) := by
  have hf : ∀ (fr : Fr), fS GG (CI d) 200 (.fdef (.cel 46) 501 [53, 46, 33]) ⟨[], [(53, 1), (33, 2), (46, 3)]⟩ [.list (ds.map .int), .cell (some (.ref 0)), .cell (some (.int n)), .cell none] = some (.nxt, ⟨[], [(53, 1), (33, 2), (46, 3)]⟩, [.list (ds.map .int), .cell (some (.ref 0)), .cell (some (.int n)), .cell (some (.clo 501 [1, 3, 2]))]) := fun fr => rfl
  cases ds with
  | nil => exact pure_list (h' := [.list [], .cell (some (.ref 0)), .cell (some (.int n)), .cell (some (.clo 501 [1, 3, 2]))]) (D := d_digits2int) (by rfl) (by rfl) hl rfl rfl rfl (fDef_ret rfl rfl (x_cons (hf ⟨[], []⟩) (x_ret (y_ifF (y_tval (y_cel rfl rfl) rfl) rfl)))) rfl
  | cons x r =>
    have hi := digits_inner (H := [.list ((x :: r).map .int), .cell (some (.ref 0)), .cell (some (.int n)), .cell (some (.clo 501 [1, 3, 2]))]) (c1 := 1) (c2 := 3) (c3 := 2) (l := 0) hF hn hlen rfl rfl rfl rfl d 0 (x :: r).length (by simp) (Nat.le_refl _) (by (first | lia | omega))
    rw [seg_all] at hi
    have ht : fT GG (CI d) 200 (.val (.cel 53)) ⟨[], [(53, 1), (33, 2), (46, 3)]⟩ [.list ((x :: r).map .int), .cell (some (.ref 0)), .cell (some (.int n)), .cell (some (.clo 501 [1, 3, 2]))] = some (true, [.list ((x :: r).map .int), .cell (some (.ref 0)), .cell (some (.int n)), .cell (some (.clo 501 [1, 3, 2]))]) := by
      refine y_tval (y_cel rfl rfl) ?_
      show (if ((x :: r).map V.int).length ≤ 16777216 then some true else none) = _
      rw [if_pos (by simp at hlen ⊢; (first | lia | omega))]
    have hlen2 : primV .len [.ref 0] [.list ((x :: r).map .int), .cell (some (.ref 0)), .cell (some (.int n)), .cell (some (.clo 501 [1, 3, 2]))] = some (.int ((x :: r).length : Nat), [.list ((x :: r).map .int), .cell (some (.ref 0)), .cell (some (.int n)), .cell (some (.clo 501 [1, 3, 2]))]) := by
      show (if ((x :: r).map V.int).length < 16777217 then some (V.int (((x :: r).map V.int).length : Nat), _) else none) = _
      rw [if_pos (by simp at hlen ⊢; (first | lia | omega)), List.length_map]
    exact pure_list (h' := [.list ((x :: r).map .int), .cell (some (.ref 0)), .cell (some (.int n)), .cell (some (.clo 501 [1, 3, 2]))]) (D := d_digits2int) (by rfl) (by rfl) hl (allAtoms_ints _) rfl rfl (fDef_ret rfl rfl (x_cons (hf ⟨[], []⟩) (x_ret (y_ifT ht (y_call (y_cel rfl rfl) (y_cons rfl (y_cons (y_prim (y_cons (y_cel rfl rfl) y_nil) hlen2) y_nil)) hi))))) rfl
end Rz
end P7
section P8
open PySem PySem.W PySem.Calls PyProof.Rows
namespace Rz
set_option linter.unusedVariables false
set_option linter.unusedSimpArgs false
set_option maxRecDepth 100000
/-! the figures of a number -/
noncomputable def digs (n : Nat) : Nat → Int → List Int
  | 0, _ => []
  | k + 1, x => x % 2 ^ n :: digs n k (x / 2 ^ n)
theorem digs_len (n : Nat) : ∀ (k : Nat) (x : Int), (digs n k x).length = k
  | 0, _ => rfl
  | k + 1, x => by rw [digs, List.length_cons, digs_len]
theorem digs_one {n : Nat} {x : Int} (h0 : 0 ≤ x) (h : x < 2 ^ n) : digs n 1 x = [x] := by
  rw [digs, digs, Int.emod_eq_of_lt h0 h]
theorem digs_get (n : Nat) : ∀ (k : Nat) (x : Int) (j : Nat), j < k → (digs n k x)[j]? = some (x / 2 ^ (n * j) % 2 ^ n)
  | 0, _, _, h => by (first | lia | omega)
  | k + 1, x, 0, _ => by simp [digs]
  | k + 1, x, j + 1, h => by
    rw [digs, List.getElem?_cons_succ, digs_get n k _ j (by (first | lia | omega)), Int.ediv_ediv_of_nonneg (Int.le_of_lt (p2pos n)), ← p2add, Nat.mul_succ, Nat.add_comm]
theorem digs_append (n : Nat) : ∀ (i j : Nat) (x : Int), digs n (i + j) x = digs n i (x % 2 ^ (n * i)) ++ digs n j (x / 2 ^ (n * i))
  | 0, j, x => by simp [digs]
  | i + 1, j, x => by
    have e : (2 : Int) ^ (n * (i + 1)) = 2 ^ n * 2 ^ (n * i) := by rw [Nat.mul_succ, Nat.add_comm, p2add]
    rw [show i + 1 + j = (i + j) + 1 by (first | lia | omega), digs, digs, digs_append n i j, List.cons_append, Int.ediv_ediv_of_nonneg (Int.le_of_lt (p2pos n)), e]
    congr 1
    · exact (Int.emod_emod_of_dvd x (Int.dvd_mul_right _ _)).symm
    · congr 2
      have h1 := p2pos n
      have h2 := p2pos (n * i)
      have g1 := div_add_mod x (2 ^ n * 2 ^ (n * i))
      have g2 := Int.emod_nonneg x (Int.ne_of_gt (Int.mul_pos h1 h2))
      have g3 := Int.emod_lt_of_pos x (Int.mul_pos h1 h2)
      refine (kbt_unique (q := x / (2 ^ n * 2 ^ (n * i))) h2 ?_ (Int.ediv_nonneg g2 (Int.le_of_lt h1)) (Int.ediv_lt_of_lt_mul h1 (by rw [Int.mul_comm (2 ^ (n * i))]; exact g3))).2
      have g4 : x / 2 ^ n = (x % (2 ^ n * 2 ^ (n * i)) + 2 ^ n * (2 ^ (n * i) * (x / (2 ^ n * 2 ^ (n * i))))) / 2 ^ n := by
        congr 1
        rw [← Int.mul_assoc, Int.mul_comm _ (x / _)]
        (first | lia | omega)
      rw [g4, Int.add_mul_ediv_left _ _ (Int.ne_of_gt h1)]
/-- the heap of _int2digits -/
noncomputable abbrev hI (n : Nat) (vs : List V) : MH := [.cell (some (.int n)), .cell (some (.ref 4)), .cell (some (.clo 500 [1, 2, 0])), .list [.int 0], .list vs]
theorem i2d_inner {n : Nat} (hn1 : 1 ≤ n) (hn : n ≤ 20000) : ∀ (d L R : Nat) (x : Int) (vs : List V), L < R → R ≤ vs.length → vs.length ≤ 1000 → R - L ≤ d → 0 ≤ x → x < 2 ^ (n * (R - L)) →
    CI d (.clo 500 [1, 2, 0]) [.int x, .int L, .int R] (hI n vs) = some (.none, hI n (vs.take L ++ (digs n (R - L) x).map .int ++ vs.drop R)) := by
  intro d
  induction d with
  | zero => intro L R x vs a b c; (first | lia | omega)
  | succ d ih =>
    intro L R x vs a b hlen c h0 h1
    rw [CI_clo d 500 _ dClo500 (by rfl)]
    by_cases hb : L + 1 = R
    · subst hb
      rw [show L + 1 - L = 1 by (first | lia | omega), Nat.mul_one] at h1
      rw [show L + 1 - L = 1 by (first | lia | omega), digs_one h0 h1]
      have hs : setIV (.ref 4) (.int L) (.int x) (hI n vs) = some (hI n (vs.take L ++ [x].map .int ++ vs.drop (L + 1))) := by
        show (if L < vs.length ∧ L < 16777216 then some (hI n (vs.set L (.int x))) else none) = _
        rw [if_pos ⟨by (first | lia | omega), by (first | lia | omega)⟩, List.set_eq_take_append_cons_drop, if_pos (by (first | lia | omega))]
        simp
      exact fDef_ret0 rfl rfl rfl (x_stop (x_if (t_eq_t (y_bin (y_loc rfl) rfl rfl) (y_loc rfl) (by (first | lia | omega))) (x_cons (x_setI (y_loc rfl) (y_cel rfl rfl) (y_loc rfl) hs) (x_ret rfl))))
    · obtain ⟨M, hM⟩ : ∃ M, M = (L + R) / 2 := ⟨_, rfl⟩
      have pS := p2pos (n * (M - L))
      have hS : (M - L) * n = n * (M - L) := Nat.mul_comm _ _
      have hu0 : 0 ≤ x / 2 ^ (n * (M - L)) := Int.ediv_nonneg h0 (Int.le_of_lt pS)
      have hu1 : x / 2 ^ (n * (M - L)) < 2 ^ (n * (R - M)) := by
        refine Int.ediv_lt_of_lt_mul pS ?_
        rw [← p2add, ← Nat.mul_add, show R - M + (M - L) = R - L by (first | lia | omega)]; exact h1
      have hl0 := Int.emod_nonneg x (Int.ne_of_gt pS)
      have hl1 := Int.emod_lt_of_pos x pS
      have b3 : n * (R - M) ≤ 20000 * 1000 := Nat.mul_le_mul hn (by (first | lia | omega))
      have b4 : n * (M - L) ≤ 20000 * 1000 := Nat.mul_le_mul hn (by (first | lia | omega))
      have hn15 : ((n : Nat) : Int) < 2 ^ 15 := by (first | lia | omega)
      have hm15 : ((M - L : Nat) : Int) < 2 ^ 15 := by (first | lia | omega)
      have k1 := ih L M (x % 2 ^ (n * (M - L))) vs (by (first | lia | omega)) (by (first | lia | omega)) hlen (by (first | lia | omega)) hl0 hl1
      have hl2 : (vs.take L ++ (digs n (M - L) (x % 2 ^ (n * (M - L)))).map V.int ++ vs.drop M).length = vs.length := by
        simp only [List.length_append, List.length_take, List.length_map, digs_len, List.length_drop]; (first | lia | omega)
      have k2 := ih M R (x / 2 ^ (n * (M - L))) _ (by (first | lia | omega)) (by rw [hl2]; exact b) (by rw [hl2]; exact hlen) (by (first | lia | omega)) hu0 hu1
      have e : (vs.take L ++ (digs n (M - L) (x % 2 ^ (n * (M - L)))).map V.int ++ vs.drop M).take M ++ (digs n (R - M) (x / 2 ^ (n * (M - L)))).map .int ++ (vs.take L ++ (digs n (M - L) (x % 2 ^ (n * (M - L)))).map V.int ++ vs.drop M).drop R = vs.take L ++ (digs n (R - L) x).map .int ++ vs.drop R := by
        have hz : (vs.take L ++ (digs n (M - L) (x % 2 ^ (n * (M - L)))).map V.int).length = M := by
          simp only [List.length_append, List.length_take, List.length_map, digs_len]; (first | lia | omega)
        rw [List.take_append_of_le_length (by rw [hz]; exact Nat.le_refl _), List.take_of_length_le (by rw [hz]; exact Nat.le_refl _), List.drop_append, List.drop_of_length_le (by rw [hz]; (first | lia | omega)), hz, List.nil_append, List.drop_drop, show M + (R - M) = R by (first | lia | omega), show R - L = (M - L) + (R - M) by (first | lia | omega), digs_append]
        simp only [List.map_append, List.append_assoc]
      rw [e] at k2
      exact fDef_nxt (D := dClo500) rfl rfl (x_cons (x_skip (t_eq_f (y_bin (y_loc rfl) rfl rfl) (y_loc rfl) (by (first | lia | omega)))) (x_cons (x_asg (y_shrE (z := M) 1 (y_bin (y_loc rfl) (y_loc rfl) rfl) rfl (by (first | lia | omega))))
        (x_cons (x_asg (y_mulE (z := (n * (M - L) : Nat)) (y_subE (z := (M - L : Nat)) (y_loc rfl) (y_loc rfl) (by (first | lia | omega))) (y_cel rfl rfl) (mulOk_nn (Int.natCast_nonneg _) hm15 (Int.natCast_nonneg _) hn15 (by decide)) (by rw [← hS]; exact (Int.natCast_mul _ _).symm)))
          (x_cons (x_asg (y_shrE (n * (M - L)) (y_loc rfl) (y_loc rfl) rfl)) (x_cons (x_asg (y_xorE (y_loc rfl) (y_shlE (n * (M - L)) (n * (R - M)) (y_loc rfl) (y_loc rfl) hu0 hu1 (by (first | lia | omega)) rfl) (bxor_low h0)))
            (x_cons (x_ex (y_call (y_cel rfl rfl) (y_cons (y_loc rfl) (y_cons (y_loc rfl) (y_cons (y_loc rfl) y_nil))) k1)) (x_cons (x_ex (y_call (y_cel rfl rfl) (y_cons (y_loc rfl) (y_cons (y_loc rfl) (y_cons (y_loc rfl) y_nil))) k2)) rfl)))))))
end Rz
end P8
section P9
open PySem PySem.W PySem.Calls PyProof.Rows
namespace Rz
set_option linter.unusedVariables false
set_option linter.unusedSimpArgs false
set_option maxRecDepth 100000
/-- a pure function of atoms that answers a new list -/
theorem pure_ref {d k j : Nat} {D : MDef} {vs ws : List V} {h' : MH} (hk : memN pureK k = true) (hD : DD.fn k = some D) (hv : vs.all atomV = true) (e : runDef GG (CI d) 200 D [] vs [] = some (.ref j, h')) (hl : listAt h' j = some ws) (hw : allAtoms ws = true) (H : MH) : CI (d + 1) (.con k) vs H = some (.ref H.length, H ++ [.list ws]) :=
  (CI_atoms hk hD hv e H).trans (isoOut_ref hl hw rfl)
theorem int2digits {a : Int} {n k d : Nat} (h0 : 0 ≤ a) (hn1 : 1 ≤ n) (hn : n ≤ 20000) (hk : (Builtin.Int.intBits a + n - 1) / n = k) (hk2 : k ≤ 900) (hd : k ≤ d) (H : MH) :
    CI (d + 1) (.con 14) [.int a, .int n] H = some (.ref H.length, H ++ [.list ((digs n k a).map .int)]) := by
  have hkb : Builtin.Int.intBits a ≤ n * k := by
    have := Nat.div_add_mod (Builtin.Int.intBits a + n - 1) n
    have := Nat.mod_lt (Builtin.Int.intBits a + n - 1) hn1
    rw [hk] at *
    (first | lia | omega)
  have ha : a < 2 ^ (n * k) := bits_lt h0 hkb
  have hkI : ((Builtin.Int.intBits a : Nat) + (n : Int) - 1).fdiv n = k := by
    rw [fd (Int.natCast_nonneg n), show ((Builtin.Int.intBits a : Nat) : Int) + (n : Int) - 1 = ((Builtin.Int.intBits a + n - 1 : Nat) : Int) by (first | lia | omega), ← hk]
    rfl
  have hb : ∀ h, fE GG (CI d) 200 (.bin .FloorDiv (.bin .Sub (.bin .Add (.mth (.loc 31) 8 (.nil)) (.cel 33)) (.lit (.int 1))) (.cel 33)) ⟨[(31, .int a)], [(33, 0), (45, 1), (46, 2)]⟩ (.cell (some (.int n)) :: h) = some (.int k, .cell (some (.int n)) :: h) := fun h =>
    y_bin (y_bin (y_bin (y_bi (y_loc rfl) rfl rfl rfl) (y_cel rfl rfl) rfl) rfl rfl) (y_cel rfl rfl) (by rw [b_fdiv, if_pos ⟨by (first | lia | omega), by (first | lia | omega)⟩, hkI])
  have hm : binV .Mult (.ref 3) (.int k) [.cell (some (.int n)), .cell none, .cell none, .list [.int 0]] = some (.ref 4, [.cell (some (.int n)), .cell none, .cell none, .list [.int 0], .list (List.replicate k (.int 0))]) := by
    show (if 0 ≤ (k : Int) ∧ (k : Int) ≤ 16777216 then _ else none) = _
    rw [if_pos ⟨by (first | lia | omega), by (first | lia | omega)⟩, Int.toNat_natCast]; rfl
  have s0 : ∀ (fr : Fr), fS GG (CI d) 200 (.asg (.cel 45) (.bin .Mult (.lst (.cons (.lit (.int 0)) (.nil))) (.bin .FloorDiv (.bin .Sub (.bin .Add (.mth (.loc 31) 8 (.nil)) (.cel 33)) (.lit (.int 1))) (.cel 33)))) ⟨[(31, .int a)], [(33, 0), (45, 1), (46, 2)]⟩ [.cell (some (.int n)), .cell none, .cell none] = some (.nxt, ⟨[(31, .int a)], [(33, 0), (45, 1), (46, 2)]⟩, [.cell (some (.int n)), .cell (some (.ref 4)), .cell none, .list [.int 0], .list (List.replicate k (.int 0))]) := fun fr =>
    x_asgc (i := 1) (v := .ref 4) (h1 := [.cell (some (.int n)), .cell none, .cell none, .list [.int 0], .list (List.replicate k (.int 0))]) (y_bin (h1 := [.cell (some (.int n)), .cell none, .cell none, .list [.int 0]]) (va := .ref 3) (y_lst (h1 := [.cell (some (.int n)), .cell none, .cell none]) (vs := [.int 0]) (y_cons rfl y_nil) (Nat.le_of_ble_eq_true rfl)) (hb _) hm) rfl rfl
  have s1 : ∀ (fr : Fr), fS GG (CI d) 200 (.fdef (.cel 46) 500 [45, 46, 33]) ⟨[(31, .int a)], [(33, 0), (45, 1), (46, 2)]⟩ [.cell (some (.int n)), .cell (some (.ref 4)), .cell none, .list [.int 0], .list (List.replicate k (.int 0))] = some (.nxt, ⟨[(31, .int a)], [(33, 0), (45, 1), (46, 2)]⟩, hI n (List.replicate k (.int 0))) := fun fr => rfl
  have s2 : ∀ (fr : Fr), fS GG (CI d) 200 (.ife (.val (.loc 31)) (.cons (.ex (.call (.cel 46) (.cons (.loc 31) (.cons (.lit (.int 0)) (.cons (.prim .len (.cons (.cel 45) (.nil))) (.nil)))))) (.nil)) (.nil)) ⟨[(31, .int a)], [(33, 0), (45, 1), (46, 2)]⟩ (hI n (List.replicate k (.int 0))) = some (.nxt, ⟨[(31, .int a)], [(33, 0), (45, 1), (46, 2)]⟩, hI n ((digs n k a).map .int)) := fun fr => by
    by_cases hz : a = 0
    · have : k = 0 := by
        subst hz
        rw [← hk, show Builtin.Int.intBits 0 = 0 by rfl]
        exact Nat.div_eq_of_lt (by (first | lia | omega))
      subst this
      exact x_skip (t_int_f (y_loc rfl) hz)
    · have hk0 : k ≠ 0 := fun q => by subst q; simp at ha; (first | lia | omega)
      have hl : primV .len [.ref 4] (hI n (List.replicate k (.int 0))) = some (.int k, hI n (List.replicate k (.int 0))) := by
        show (if (List.replicate k (V.int 0)).length < 16777217 then some (V.int ((List.replicate k (V.int 0)).length : Nat), _) else none) = _
        rw [List.length_replicate, if_pos (by (first | lia | omega))]
      have hi := i2d_inner hn1 hn d 0 k a (List.replicate k (.int 0)) (by (first | lia | omega)) (by simp) (by simp; (first | lia | omega)) (by (first | lia | omega)) h0 ha
      rw [List.take_zero, Nat.sub_zero, List.nil_append, List.drop_of_length_le (by simp), List.append_nil] at hi
      exact x_if (t_int_t (y_loc rfl) hz) (x_cons (x_ex (y_call (y_cel rfl rfl) (y_cons (y_loc rfl) (y_cons rfl (y_cons (y_prim (y_cons (y_cel rfl rfl) y_nil) hl) y_nil))) hi)) rfl)
  exact pure_ref (D := d_int2digits) (by rfl) (by rfl) (by rfl) (fDef_ret rfl rfl (x_cons (s0 ⟨[], []⟩) (x_cons (s1 ⟨[], []⟩) (x_cons (s2 ⟨[], []⟩) (x_ret (y_cel rfl rfl)))))) rfl (allAtoms_ints _) H
end Rz
end P9
section P10
open PySem PySem.W PySem.Calls PyProof.Rows
namespace Rz
set_option linter.unusedVariables false
set_option linter.unusedSimpArgs false
set_option maxRecDepth 100000
theorem div_loop {a b : Int} {n d k : Nat} (D : D21 (CI d) n) (h0 : 0 ≤ a) (hb1 : 2 ^ (n - 1) ≤ b) (hb2 : b < 2 ^ n) (hn : n ≤ 20000) : ∀ (j m : Nat) (fr : Fr) (qs : List Int), j ≤ k → j < m → qs.length + j ≤ 1000 → Figs n qs → valD n qs.reverse = a / 2 ^ (n * j) / b →
    lk fr.loc 34 = some (.int (a / 2 ^ (n * j) % b)) → lk fr.loc 32 = some (.int b) → lk fr.loc 33 = some (.int n) → lk fr.loc 54 = some (.ref 1) →
    ∃ fr' qs', forL (nextI (CI d)) (fun v fr h => (stT (.loc 55) v fr h).bind fun q => fSs GG (CI d) 200 (.cons (.asgT [.loc 56, .loc 34] (.call (.glb 12) (.cons (.bin .Add (.bin .LShift (.loc 34) (.loc 33)) (.loc 55)) (.cons (.loc 32) (.cons (.loc 33) (.nil)))))) (.cons (.ex (.mth (.loc 54) 1 (.cons (.loc 56) (.nil)))) (.nil))) q.1 q.2) m (.obj 2) fr [.list ((digs n k a).map .int), .list (qs.map .int), .rit 0 ((j : Int) - 1)]
        = some (.nxt, fr', [.list ((digs n k a).map .int), .list (qs'.map .int), .rit 0 (((0 : Nat) : Int) - 1)]) ∧ Figs n qs' ∧ qs'.length = qs.length + j ∧ valD n qs'.reverse = a / b ∧ lk fr'.loc 34 = some (.int (a % b)) ∧ lk fr'.loc 33 = some (.int n) ∧ lk fr'.loc 54 = some (.ref 1) := by
  have pn := p2pos n
  have hbp : 0 < b := by have := p2pos (n - 1); (first | lia | omega)
  intro j
  induction j with
  | zero =>
    intro m fr qs h1 h2 hq hF hv e34 e32 e33 e54
    obtain ⟨m, rfl⟩ := fuel h2
    rw [show a / 2 ^ (n * 0) = a by simp] at hv e34
    exact ⟨fr, qs, for_stop (rit_end rfl), hF, by (first | lia | omega), hv, e34, e33, e54⟩
  | succ j ih =>
    intro m fr qs h1 h2 hq hF hv e34 e32 e33 e54
    obtain ⟨m, rfl⟩ := fuel h2
    have pj := p2pos (n * j)
    obtain ⟨X, hX⟩ : ∃ X, X = a / 2 ^ (n * j) := ⟨_, rfl⟩
    have hX0 : 0 ≤ X := by rw [hX]; exact Int.ediv_nonneg h0 (Int.le_of_lt pj)
    have eX : a / 2 ^ (n * (j + 1)) = X / 2 ^ n := by rw [hX, Int.ediv_ediv_of_nonneg (Int.le_of_lt pj), ← p2add, Nat.mul_succ]
    rw [eX] at hv e34
    have x0 := Int.emod_nonneg X (Int.ne_of_gt pn)
    have x1 := Int.emod_lt_of_pos X pn
    have eXX := div_add_mod X (2 ^ n)
    have r0 := Int.emod_nonneg (X / 2 ^ n) (Int.ne_of_gt hbp)
    have r1 := Int.emod_lt_of_pos (X / 2 ^ n) hbp
    have y0 : 0 ≤ X / 2 ^ n % b * 2 ^ n + X % 2 ^ n := Int.add_nonneg (Int.mul_nonneg r0 (Int.le_of_lt pn)) x0
    have y1 : X / 2 ^ n % b * 2 ^ n + X % 2 ^ n < b * 2 ^ n := by
      have := Int.mul_le_mul_of_nonneg_right (show X / 2 ^ n % b ≤ b - 1 by (first | lia | omega)) (Int.le_of_lt pn)
      rw [Int.sub_mul, Int.one_mul] at this
      (first | lia | omega)
    have call := D _ b y0 y1 hb1 hb2
    have q0 := Int.ediv_nonneg y0 (Int.le_of_lt hbp)
    have q1 := Int.ediv_lt_of_lt_mul hbp (show _ < 2 ^ n * b by rw [Int.mul_comm]; exact y1)
    have t0 := Int.emod_nonneg (X / 2 ^ n % b * 2 ^ n + X % 2 ^ n) (Int.ne_of_gt hbp)
    have t1 := Int.emod_lt_of_pos (X / 2 ^ n % b * 2 ^ n + X % 2 ^ n) hbp
    obtain ⟨u1, u2⟩ := kbt_unique (a := X) (q := X / 2 ^ n / b * 2 ^ n + (X / 2 ^ n % b * 2 ^ n + X % 2 ^ n) / b) (r := (X / 2 ^ n % b * 2 ^ n + X % 2 ^ n) % b) hbp (by
      have g1 := div_add_mod (X / 2 ^ n % b * 2 ^ n + X % 2 ^ n) b
      have g2 := div_add_mod (X / 2 ^ n) b
      have g3 : X / 2 ^ n * 2 ^ n = X / 2 ^ n / b * 2 ^ n * b + X / 2 ^ n % b * 2 ^ n := by
        rw [Int.mul_assoc, Int.mul_comm (2 ^ n) b, ← Int.mul_assoc, ← Int.add_mul, g2]
      rw [Int.mul_comm b, Int.add_mul]
      (first | lia | omega)) t0 t1
    rw [← u2] at call
    obtain ⟨fr', qs', w1, w2, w3, w4⟩ := ih m ⟨put (put (put fr.loc 55 (.int (X % 2 ^ n))) 56 (.int ((X / 2 ^ n % b * 2 ^ n + X % 2 ^ n) / b))) 34 (.int (X % b)), fr.cel⟩ (qs ++ [(X / 2 ^ n % b * 2 ^ n + X % 2 ^ n) / b]) (by (first | lia | omega)) (by (first | lia | omega)) (by simp; (first | lia | omega))
      (fun x hx => by rcases List.mem_append.mp hx with hx | hx; exact hF x hx; rw [List.mem_singleton] at hx; subst hx; exact ⟨q0, q1⟩)
      (by rw [List.reverse_append, List.reverse_singleton, List.singleton_append, valD, hv, ← hX, u1, Int.mul_comm (2 ^ n) (X / 2 ^ n / b)]; exact Int.add_comm _ _)
      (by rw [← hX]; simp only [lk_put]; rfl) (by simp only [lk_put]; exact e32) (by simp only [lk_put]; exact e33) (by simp only [lk_put]; exact e54)
    have hget : ((digs n k a).map V.int)[j]? = some (.int (X % 2 ^ n)) := by rw [List.getElem?_map, digs_get n k a j (by (first | lia | omega)), hX]; rfl
    have f34 : lk (put fr.loc 55 (V.int (X % 2 ^ n))) 34 = some (.int (X / 2 ^ n % b)) := by simp only [lk_put]; exact e34
    have f32 : lk (put fr.loc 55 (V.int (X % 2 ^ n))) 32 = some (.int b) := by simp only [lk_put]; exact e32
    have f33 : lk (put fr.loc 55 (V.int (X % 2 ^ n))) 33 = some (.int n) := by simp only [lk_put]; exact e33
    have f55 : lk (put fr.loc 55 (V.int (X % 2 ^ n))) 55 = some (.int (X % 2 ^ n)) := by simp only [lk_put]; rfl
    have rb : X / 2 ^ n % b < 2 ^ n := by (first | lia | omega)
    have g54 : lk (put (put (put fr.loc 55 (V.int (X % 2 ^ n))) 56 (.int ((X / 2 ^ n % b * 2 ^ n + X % 2 ^ n) / b))) 34 (.int (X % b))) 54 = some (.ref 1) := by simp only [lk_put]; exact e54
    have g56 : lk (put (put (put fr.loc 55 (V.int (X % 2 ^ n))) 56 (.int ((X / 2 ^ n % b * 2 ^ n + X % 2 ^ n) / b))) 34 (.int (X % b))) 56 = some (.int ((X / 2 ^ n % b * 2 ^ n + X % 2 ^ n) / b)) := by simp only [lk_put]; rfl
    have happ : biM 1 (.ref 1) [.int ((X / 2 ^ n % b * 2 ^ n + X % 2 ^ n) / b)] [.list ((digs n k a).map .int), .list (qs.map .int), .rit 0 ((j : Int) - 1)] = some (.none, [.list ((digs n k a).map .int), .list ((qs ++ [(X / 2 ^ n % b * 2 ^ n + X % 2 ^ n) / b]).map .int), .rit 0 ((j : Int) - 1)]) := by
      rw [m_append (vs := qs.map .int) rfl (by simp; (first | lia | omega)), List.map_append]; rfl
    refine ⟨fr', qs', (for_go (rit_next rfl rfl hget) (x_bind (x_cons (x_asg2 (y_call (y_glb rfl) (y_cons (y_addE (y_shlE n n (y_loc f34) (y_loc f33) r0 rb (by (first | lia | omega)) rfl) (y_loc f55) rfl) (y_cons (y_loc f32) (y_cons (y_loc f33) y_nil))) (call _))) (x_cons (x_ex (y_bi (y_loc g54) rfl (y_cons (y_loc g56) y_nil) happ)) rfl)))).trans w1, w2, by rw [w3]; simp; (first | lia | omega), w4⟩
theorem divmod_pos {a b : Int} {n d : Nat} (hd : 14 ≤ d) (h0 : 0 ≤ a) (hn1 : 1 ≤ n) (hn : n ≤ 16000) (hb1 : 2 ^ (n - 1) ≤ b) (hb2 : b < 2 ^ n) (ha : a < 2 ^ (n * 8)) (H : MH) :
    CI (d + 1) (.con 16) [.int a, .int b] H = some (.tup [.int (a / b), .int (a % b)], H) := by
  obtain ⟨d, rfl⟩ : ∃ d', d = d' + 5 := ⟨d - 5, by (first | lia | omega)⟩
  have hbp : 0 < b := by have := p2pos (n - 1); (first | lia | omega)
  have hbits : Builtin.Int.intBits b = n := by
    have := bits_eq (a := b) (k := n - 1) hb1 (by rw [show n - 1 + 1 = n by (first | lia | omega)]; exact hb2)
    (first | lia | omega)
  have hab := bits_le h0 ha
  obtain ⟨k, hk⟩ : ∃ k, (Builtin.Int.intBits a + n - 1) / n = k := ⟨_, rfl⟩
  have hk8 : k ≤ 8 := by
    rw [← hk]
    exact Nat.lt_succ_iff.mp ((Nat.div_lt_iff_lt_mul hn1).mpr (by rw [Nat.mul_comm 9 n]; (first | lia | omega)))
  have hkb : Builtin.Int.intBits a ≤ n * k := by
    have := Nat.div_add_mod (Builtin.Int.intBits a + n - 1) n
    have := Nat.mod_lt (Builtin.Int.intBits a + n - 1) hn1
    rw [hk] at *
    (first | lia | omega)
  have hak := bits_lt h0 hkb
  have hz : a / 2 ^ (n * k) = 0 := Int.ediv_eq_zero_of_lt h0 hak
  obtain ⟨fr', qs, w1, w2, w3, w4, w5, w6, w7⟩ := div_loop (k := k) (d21_16000 d hn1 hn) h0 hb1 hb2 (by (first | lia | omega)) k 200 ⟨[(31, .int a), (32, .int b), (33, .int n), (45, .ref 0), (34, .int 0), (54, .ref 1)], []⟩ [] (Nat.le_refl _) (by (first | lia | omega)) (by simp; (first | lia | omega)) (fun x hx => by cases hx) (by rw [hz]; simp [valD]) (by rw [hz]; rfl) rfl rfl rfl
  simp only [List.length_nil, Nat.zero_add] at w3
  have c14 := int2digits (d := d + 4) h0 hn1 (by (first | lia | omega)) hk (by (first | lia | omega)) (by (first | lia | omega)) []
  have c15 := digits2int (ds := qs.reverse) (n := n) (l := 1) (d := d + 4) (H := [.list ((digs n k a).map .int), .list (qs.map V.int).reverse, .rit 0 (((0 : Nat) : Int) - 1)]) (fun x hx => w2 x (List.mem_reverse.mp hx)) (by (first | lia | omega)) (by simp; (first | lia | omega)) (by simp; (first | lia | omega)) (by rw [List.map_reverse]; rfl)
  rw [w4] at c15
  have f54 : lk (put fr'.loc 44 (V.int (a / b))) 34 = some (.int (a % b)) := by simp only [lk_put]; exact w5
  have f44 : lk (put fr'.loc 44 (V.int (a / b))) 44 = some (.int (a / b)) := by simp only [lk_put]; rfl
  have hrev : primV .rev [.ref 0] [.list ((digs n k a).map .int), .list []] = some (.ref 2, [.list ((digs n k a).map .int), .list [], .rit 0 ((k : Int) - 1)]) := by
    show some (V.ref 2, [AO.list ((digs n k a).map .int), .list [], .rit 0 ((((digs n k a).map V.int).length : Int) - 1)]) = _
    rw [List.length_map, digs_len]
  have hbt : ∀ h, biM 8 (.int b) [] h = some (.int n, h) := fun h => by rw [m_bits, hbits]
  have hrv : biM 3 (.ref 1) [] [.list ((digs n k a).map .int), .list (qs.map .int), .rit 0 (((0 : Nat) : Int) - 1)] = some (.none, [.list ((digs n k a).map .int), .list (qs.map V.int).reverse, .rit 0 (((0 : Nat) : Int) - 1)]) := m_reverse (vs := qs.map .int) rfl (by simp; (first | lia | omega))
  refine pure_call (vs := [.int a, .int b]) (D := d_divmod_pos) (by rfl) (by rfl) (by rfl) (by rfl) (fDef_ret rfl rfl (x_cons (x_asg (v := .int n) (y_bi (y_loc rfl) rfl rfl (hbt _)))
    (x_cons (x_asg (y_call (y_glb rfl) (y_cons (y_loc rfl) (y_cons (y_loc rfl) y_nil)) c14)) (x_cons (x_asg rfl) (x_cons (x_asg (y_lst y_nil (Nat.le_of_ble_eq_true rfl)))
      (x_cons (x_for (y_prim (y_cons (y_loc rfl) y_nil) hrev) rfl w1) (x_cons (x_ex (y_bi (y_loc w7) rfl y_nil hrv)) (x_cons (x_asg (y_call (y_glb rfl) (y_cons (y_loc w7) (y_cons (y_loc w6) y_nil)) c15))
        (x_ret (y_tup (y_cons (y_loc f44) (y_cons (y_loc f54) y_nil)) (Nat.le_of_ble_eq_true rfl))))))))))) H
theorem int_divmod {a b : Int} {n d : Nat} (hd : 14 ≤ d) (hn1 : 1 ≤ n) (hn : n ≤ 16000) (hb1 : 2 ^ (n - 1) ≤ b) (hb2 : b < 2 ^ n) (ha : a < 2 ^ (n * 8)) (ha2 : -a ≤ 2 ^ (n * 8)) (H : MH) :
    CI (d + 3) (.con 17) [.int a, .int b] H = some (.tup [.int (a / b), .int (a % b)], H) := by
  have hbp : 0 < b := by have := p2pos (n - 1); (first | lia | omega)
  have pos : ∀ (d : Nat) (a : Int), 14 ≤ d → 0 ≤ a → a < 2 ^ (n * 8) → ∀ H, CI (d + 2) (.con 17) [.int a, .int b] H = some (.tup [.int (a / b), .int (a % b)], H) := fun d a hd h0 ha H =>
    pure_call (D := dint_divmod) (by rfl) (by rfl) (by rfl) (by rfl) (fDef_ret rfl rfl (x_stop (x_else (t_eq_f (y_loc rfl) rfl (by (first | lia | omega))) (x_stop (x_else (t_lt_f (y_loc rfl) rfl (by (first | lia | omega))) (x_stop (x_else (t_lt_f (y_loc rfl) rfl (by (first | lia | omega))) (x_ret (y_call (y_glb rfl) (y_cons (y_loc rfl) (y_cons (y_loc rfl) y_nil)) (divmod_pos hd h0 hn1 hn hb1 hb2 ha _)))))))))) H
  by_cases h0 : 0 ≤ a
  · exact pos (d + 1) a (by (first | lia | omega)) h0 ha H
  · obtain ⟨u1, u2⟩ := kbt_below a hbp
    have c := pos d (Builtin.bitNot a) hd (by unfold Builtin.bitNot; (first | lia | omega)) (by unfold Builtin.bitNot; (first | lia | omega))
    have e1 : a / b = Builtin.bitNot (Builtin.bitNot a / b) := u1
    have e2 : a % b = b + Builtin.bitNot (Builtin.bitNot a % b) := by rw [u2]; unfold Builtin.bitNot; (first | lia | omega)
    rw [e1, e2]
    exact pure_call (D := dint_divmod) (by rfl) (by rfl) (by rfl) (by rfl) (fDef_ret rfl rfl <| x_stop <| x_else (t_eq_f (y_loc rfl) rfl (by (first | lia | omega))) <| x_stop <| x_else (t_lt_f (y_loc rfl) rfl (by (first | lia | omega))) <| x_stop <| x_if (t_lt_t (y_loc rfl) rfl (by (first | lia | omega))) <|
      x_cons (x_asg2 (y_call (y_glb rfl) (y_cons (y_inv (y_loc rfl)) (y_cons (y_loc rfl) y_nil)) (c _))) <| x_ret <| y_tup (y_cons (y_inv (y_loc rfl)) (y_cons (y_addE (y_loc rfl) (y_inv (y_loc rfl)) rfl) y_nil)) (Nat.le_of_ble_eq_true rfl)) H
end Rz
end P10
section P11
open PySem PySem.W PySem.Calls PyProof.Rows
namespace Rz
set_option linter.unusedVariables false
set_option linter.unusedSimpArgs false
set_option maxRecDepth 100000
/-! frames and heaps that are told by what is at a place -/
theorem lk_eq {α : Type} {l : List (Nat × α)} {x : Nat} {v : α} : lk (put l x v) x = some v := by rw [lk_put, if_pos rfl]
theorem lk_ne {α : Type} {l : List (Nat × α)} {x y : Nat} {v : α} {r : Option α} (h : Nat.beq y x = false) (e : lk l y = r) : lk (put l x v) y = r := by
  rw [lk_put, if_neg (fun q => by rw [q, Nat.beq_refl] at h; cases h)]; exact e
section
variable {h : MH} {o x : AO} {i j : Nat} {L : MH} {vs : List V}
theorem app_at (e : h[i]? = some o) : (h ++ L)[i]? = some o := by rw [List.getElem?_append_left (List.getElem?_eq_some_iff.mp e).1]; exact e
theorem app_new : (h ++ [o])[h.length]? = some o := by rw [List.getElem?_append_right (Nat.le_refl _), Nat.sub_self]; rfl
theorem set_at (e : h[i]? = some o) : (h.set i x)[i]? = some x := by rw [List.getElem?_set_self (List.getElem?_eq_some_iff.mp e).1]
theorem set_ne (n : i ≠ j) (e : h[j]? = some o) : (h.set i x)[j]? = some o := by rw [List.getElem?_set_ne n]; exact e
theorem listAt_of (e : h[i]? = some (.list vs)) : listAt h i = some vs := onLst_of e
theorem at_lt (e : h[i]? = some o) : i < h.length := (List.getElem?_eq_some_iff.mp e).1
theorem setI_at {k : Nat} {v : V} (e : h[i]? = some (.list vs)) (hk : k < vs.length) (hk2 : k < 16777216) : setIV (.ref i) (.int (k : Nat)) v h = some (h.set i (.list (vs.set k v))) :=
  (onL_of (listAt_of e)).trans (if_pos ⟨hk, hk2⟩)
theorem setA_at {c d n : Nat} {kv : List (Nat × V)} {v : V} (hi : h[i]? = some (.inst c d)) (hd : h[d]? = some (.dict kv)) (g : GG.dat c n = true) (hn : Nat.ble n 399 = true) (hk : Nat.ble kv.length 50 = true) : setAV GG (.ref i) n v h = some (h.set d (.dict (put kv n v))) :=
  (onInst_of hi).trans ((onDict_of hd).trans ((iff_of g).trans ((iff_of hn).trans (iff_of hk))))
theorem attr_at {c d n : Nat} {kv : List (Nat × V)} {v : V} (hi : h[i]? = some (.inst c d)) (hd : h[d]? = some (.dict kv)) (hl : lk kv n = some v) (g : GG.dat c n = true) : attV GG (.ref i) n h = some v := getV_dat hi hd hl g
theorem meth_at {c d n k : Nat} {kv : List (Nat × V)} (hi : h[i]? = some (.inst c d)) (hd : h[d]? = some (.dict kv)) (hl : lk kv n = none) (hn : Nat.ble n 399 = true) (g : GG.m c n = some k) : calleeV GG (.ref i) n h = some (.val (.con k) [.ref i]) := (onL_of hi).trans (getV_mth hi hd hl hn g)
theorem len_at (e : h[i]? = some (.list vs)) (hs : vs.length < 16777217) : primV .len [.ref i] h = some (.int (vs.length : Nat), h) := by
  show onL (listAt h i) (fun vs => if vs.length < 16777217 then some (V.int (vs.length : Nat), h) else none) = _
  rw [listAt_of e]; exact if_pos hs
theorem add_at {us : List V} (e : h[i]? = some (.list vs)) (e2 : h[j]? = some (.list us)) (hs : vs.length + us.length ≤ 16777216) : binV .Add (.ref i) (.ref j) h = some (.ref h.length, h ++ [.list (vs ++ us)]) := by
  show catL h (listAt h i) (listAt h j) = _
  rw [listAt_of e, listAt_of e2]; exact if_pos hs
theorem rep_at {v : V} {k : Nat} (e : h[i]? = some (.list [v])) (hk : k ≤ 16777216) : binV .Mult (.ref i) (.int k) h = some (.ref h.length, h ++ [.list (List.replicate k v)]) := by
  show repL h (k : Int) (listAt h i) = _
  rw [listAt_of e]; exact (if_pos ⟨by (first | lia | omega), by (first | lia | omega)⟩)
end
/-! Whitespace -/
noncomputable def ext (cnt : List Int) (b : Nat) : List Int := if cnt.length ≤ b then cnt ++ List.replicate (b - cnt.length + 1) 0 else cnt
noncomputable def bump (cnt : List Int) (b : Nat) : List Int := (ext cnt b).set b ((ext cnt b).getD b 0 + 1)
structure WsT where
  cnt : List Int
  b : Nat
  n : Nat
  nt : Nat
noncomputable def wsStep (t : WsT) (c : Nat) : WsT := match Nat.beq c 32 with
  | true => ⟨t.cnt, t.b + 1, t.n + 1, t.nt⟩
  | false => ⟨bump t.cnt t.b, 0, t.n + 1, t.nt + 1⟩
noncomputable def wsRun : List Nat → WsT → WsT
  | [], t => t
  | c :: r, t => wsRun r (wsStep t c)
theorem ext_len (cnt : List Int) (b : Nat) : b < (ext cnt b).length ∧ (ext cnt b).length ≤ max cnt.length (b + 1) := by
  unfold ext
  split
  · rw [List.length_append, List.length_replicate]; (first | lia | omega)
  · (first | lia | omega)
structure WsI (sf : V) (M : Nat) (Hs : MH) (fr : Fr) (H : MH) (t : WsT) : Prop where
  e57 : lk fr.loc 57 = some sf
  e76 : lk fr.loc 76 = some (.str [32])
  e77 : lk fr.loc 77 = some (.str [9])
  e6 : ∃ l, M ≤ l ∧ lk fr.loc 6 = some (.ref l) ∧ H[l]? = some (.list (t.cnt.map .int))
  e32 : lk fr.loc 32 = some (.int t.b)
  e33 : lk fr.loc 33 = some (.int t.n)
  e74 : lk fr.loc 74 = some (.int t.nt)
  keep : ∀ i o, i < M → Hs[i]? = some o → H[i]? = some o
  big : M ≤ H.length
noncomputable def nthS : Nat → Ss → St
  | _, .nil => .bad
  | 0, .cons s _ => s
  | n + 1, .cons _ ss => nthS n ss
noncomputable def forBody : St → Ss
  | .forr _ _ b => b
  | .whl _ b => b
  | _ => .nil
noncomputable def wsBody : Ss := forBody (nthS 4 (bodyS dWhitespace___init__))
theorem ws_step {C : Call} {sf : V} {M : Nat} {Hs H : MH} {fr : Fr} {t : WsT} (I : WsI sf M Hs fr H t) {c : Nat} (hc : c = 32 ∨ c = 9) (h1 : t.cnt.length ≤ 1000) (h2 : t.b ≤ 1000) :
    ∃ fr' H', fSs GG C 200 wsBody ⟨put fr.loc 64 (.str [c]), fr.cel⟩ H = some (.nxt, fr', H') ∧ WsI sf M Hs fr' H' (wsStep t c) := by
  obtain ⟨l, hM, e6, hl⟩ := I.e6
  rcases hc with rfl | rfl
  · refine ⟨_, _, x_cons (x_if (y_tcmp (y_loc lk_eq) (y_loc (lk_ne rfl I.e76)) rfl) (x_cons (x_asg (y_addE (z := (t.n + 1 : Nat)) (y_loc (lk_ne rfl I.e33)) rfl rfl)) (x_cons (x_asg (y_addE (z := (t.b + 1 : Nat)) (y_loc (lk_ne rfl (lk_ne rfl I.e32))) rfl rfl)) rfl))) rfl, ?_⟩
    exact ⟨lk_ne rfl (lk_ne rfl (lk_ne rfl I.e57)), lk_ne rfl (lk_ne rfl (lk_ne rfl I.e76)), lk_ne rfl (lk_ne rfl (lk_ne rfl I.e77)), ⟨l, hM, lk_ne rfl (lk_ne rfl (lk_ne rfl e6)), hl⟩, lk_eq, lk_ne rfl lk_eq, lk_ne rfl (lk_ne rfl (lk_ne rfl I.e74)), I.keep, I.big⟩
  · obtain ⟨g1, g2⟩ := ext_len t.cnt t.b
    -- the list is long enough
    have mid : ∀ fr1 : Fr, lk fr1.loc 32 = some (.int t.b) → lk fr1.loc 6 = some (.ref l) → ∃ fr2 H2 l2, fS GG C 200 (.ife (.cmp .GtE (.loc 32) (.prim .len (.cons (.loc 6) (.nil)))) (.cons (.asg (.loc 6) (.bin .Add (.loc 6) (.bin .Mult (.lst (.cons (.lit (.int 0)) (.nil))) (.bin .Add (.bin .Sub (.loc 32) (.prim .len (.cons (.loc 6) (.nil)))) (.lit (.int 1)))))) (.nil)) (.nil)) fr1 H = some (.nxt, fr2, H2) ∧
        M ≤ l2 ∧ lk fr2.loc 6 = some (.ref l2) ∧ H2[l2]? = some (.list ((ext t.cnt t.b).map .int)) ∧ (∀ i o, i < M → H[i]? = some o → H2[i]? = some o) ∧ M ≤ H2.length ∧ (∀ y v, Nat.beq y 6 = false → lk fr1.loc y = some v → lk fr2.loc y = some v) := by
      intro fr1 f32 f6
      have hlen := len_at hl (by rw [List.length_map]; (first | lia | omega))
      rw [List.length_map] at hlen
      by_cases hb : t.cnt.length ≤ t.b
      · have a1 := app_at (L := [.list [.int 0]]) hl
        have a2 := app_at (L := [.list (List.replicate (t.b - t.cnt.length + 1) (.int 0))]) a1
        refine ⟨_, _, (H ++ [AO.list [.int 0]] ++ [AO.list (List.replicate (t.b - t.cnt.length + 1) (.int 0))]).length, x_if (t_ge_t (y_loc f32) (y_prim (y_cons (y_loc f6) y_nil) hlen) (by (first | lia | omega))) (x_cons (x_asg (y_bin (y_loc f6) (y_bin (y_lst (y_cons rfl y_nil) (Nat.le_of_ble_eq_true rfl)) (y_addE (z := (t.b - t.cnt.length + 1 : Nat)) (y_subE (z := (t.b - t.cnt.length : Nat)) (y_loc f32) (y_prim (y_cons (y_loc f6) y_nil) (by
          rw [len_at a1 (by rw [List.length_map]; (first | lia | omega)), List.length_map])) (by (first | lia | omega))) rfl rfl) (rep_at app_new (by (first | lia | omega)))) (add_at a2 app_new (by rw [List.length_map, List.length_replicate]; (first | lia | omega))))) rfl), ?_, lk_eq, ?_, fun i o hi e => app_at (app_at (app_at e)), ?_, fun y v n e => lk_ne n e⟩
        · have := at_lt hl; simp only [List.length_append, List.length_singleton]; (first | lia | omega)
        · rw [app_new]; unfold ext; rw [if_pos hb, List.map_append, List.map_replicate]
        · have := at_lt hl; simp only [List.length_append, List.length_singleton]; (first | lia | omega)
      · refine ⟨_, _, l, x_skip (t_ge_f (y_loc f32) (y_prim (y_cons (y_loc f6) y_nil) hlen) (by (first | lia | omega))), hM, f6, ?_, fun i o _ e => e, I.big, fun y v n e => e⟩
        unfold ext; rw [if_neg hb]; exact hl
    obtain ⟨fr2, H2, l2, s1, hM2, f6, hl2, k2, big2, f2⟩ := mid ⟨put (put (put fr.loc 64 (.str [9])) 33 (.int (t.n + 1 : Nat))) 74 (.int (t.nt + 1 : Nat)), fr.cel⟩ (lk_ne rfl (lk_ne rfl (lk_ne rfl I.e32))) (lk_ne rfl (lk_ne rfl (lk_ne rfl e6)))
    have f32 := f2 32 _ rfl (lk_ne rfl (lk_ne rfl (lk_ne rfl I.e32)))
    obtain ⟨x, hx⟩ : ∃ x, (ext t.cnt t.b)[t.b]? = some x := ⟨_, List.getElem?_eq_getElem g1⟩
    have hget : ((ext t.cnt t.b).map V.int)[t.b]? = some (.int x) := by rw [List.getElem?_map, hx]; rfl
    refine ⟨_, _, x_cons (x_else (y_tcmp (y_loc lk_eq) (y_loc (lk_ne rfl I.e76)) rfl) (x_cons (x_if (y_tcmp (y_loc lk_eq) (y_loc (lk_ne rfl I.e77)) rfl) (x_cons (x_asg (y_addE (z := (t.n + 1 : Nat)) (y_loc (lk_ne rfl I.e33)) rfl rfl)) (x_cons (x_asg (y_addE (z := (t.nt + 1 : Nat)) (y_loc (lk_ne rfl (lk_ne rfl I.e74))) rfl rfl))
      (x_cons s1 (x_cons (x_setI (y_addE (z := x + 1) (y_idx (y_loc f6) (y_loc f32) (idx_ref (listAt_of hl2) (by (first | lia | omega)) hget)) rfl rfl) (y_loc f6) (y_loc f32) (setI_at hl2 (by rw [List.length_map]; exact g1) (by (first | lia | omega)))) (x_cons (x_asg (v := .int (0 : Nat)) rfl) rfl)))))) rfl)) rfl, ?_⟩
    refine ⟨lk_ne rfl (f2 57 _ rfl (lk_ne rfl (lk_ne rfl (lk_ne rfl I.e57)))), lk_ne rfl (f2 76 _ rfl (lk_ne rfl (lk_ne rfl (lk_ne rfl I.e76)))), lk_ne rfl (f2 77 _ rfl (lk_ne rfl (lk_ne rfl (lk_ne rfl I.e77)))), ⟨l2, hM2, lk_ne rfl f6, ?_⟩, lk_eq, lk_ne rfl (f2 33 _ rfl (lk_ne rfl lk_eq)), lk_ne rfl (f2 74 _ rfl lk_eq), fun i o hi e => set_ne (by (first | lia | omega)) (k2 i o hi (I.keep i o hi e)), by rw [List.length_set]; exact big2⟩
    rw [set_at hl2]
    show _ = some (AO.list ((bump t.cnt t.b).map .int))
    unfold bump
    rw [List.map_set, List.getD_eq_getElem?_getD, hx]
    rfl
end Rz
end P11
section P12
open PySem PySem.W PySem.Calls PyProof.Rows
namespace Rz
set_option linter.unusedVariables false
set_option linter.unusedSimpArgs false
set_option maxRecDepth 100000
noncomputable def allBT : List Nat → Bool
  | [] => true
  | c :: r => match Nat.beq c 32 with
    | true => allBT r
    | false => match Nat.beq c 9 with
      | true => allBT r
      | false => false
theorem allBT_cons {c : Nat} {r : List Nat} (h : allBT (c :: r) = true) : (c = 32 ∨ c = 9) ∧ allBT r = true := by
  unfold allBT at h
  split at h
  · rename_i q; exact ⟨.inl (Nat.eq_of_beq_eq_true q), h⟩
  · split at h
    · rename_i q; exact ⟨.inr (Nat.eq_of_beq_eq_true q), h⟩
    · cases h
theorem wsStep_le {t : WsT} {c K : Nat} (h1 : t.cnt.length ≤ K) (h2 : t.b ≤ K) : (wsStep t c).cnt.length ≤ K + 1 ∧ (wsStep t c).b ≤ K + 1 := by
  unfold wsStep
  split
  · exact ⟨by dsimp only; (first | lia | omega), by dsimp only; (first | lia | omega)⟩
  · have := (ext_len t.cnt t.b).2
    refine ⟨?_, by dsimp only; (first | lia | omega)⟩
    show (bump t.cnt t.b).length ≤ _
    unfold bump
    rw [List.length_set]; (first | lia | omega)
theorem ws_loop {C : Call} {sf : V} {M : Nat} {Hs : MH} : ∀ (w : List Nat) (m K : Nat) (fr : Fr) (H : MH) (t : WsT), WsI sf M Hs fr H t → allBT w = true → w.length < m → t.cnt.length ≤ K → t.b ≤ K → K + w.length ≤ 900 →
    ∃ fr' H', forL (nextI C) (fun v fr h => (stT (.loc 64) v fr h).bind fun q => fSs GG C 200 wsBody q.1 q.2) m (.str w) fr H = some (.nxt, fr', H') ∧ WsI sf M Hs fr' H' (wsRun w t)
  | [], m, K, fr, H, t, I, hw, hm, h1, h2, h3 => by
    obtain ⟨m, rfl⟩ := fuel hm
    exact ⟨fr, H, for_stop rfl, I⟩
  | c :: r, m, K, fr, H, t, I, hw, hm, h1, h2, h3 => by
    obtain ⟨m, rfl⟩ := fuel hm
    obtain ⟨hc, hr⟩ := allBT_cons hw
    rw [List.length_cons] at hm h3
    obtain ⟨fr1, H1, e1, I1⟩ := ws_step (C := C) I hc (by (first | lia | omega)) (by (first | lia | omega))
    obtain ⟨g1, g2⟩ := wsStep_le (c := c) h1 h2
    obtain ⟨fr2, H2, e2, I2⟩ := ws_loop r m (K + 1) fr1 H1 (wsStep t c) I1 hr (by (first | lia | omega)) g1 g2 (by (first | lia | omega))
    exact ⟨fr2, H2, (for_go rfl (x_bind e1)).trans e2, I2⟩
noncomputable def wsKV (w : List Nat) (t : WsT) : List (Nat × V) := [(75, .str w), (33, .int t.n), (74, .int t.nt), (73, .tup [.tup (t.cnt.map .int), .int t.b]), (72, .bool (decide ((t.cnt.length : Int) ≤ 1)))]
section
variable {G : Gl} {C : Call} {n : Nat} {cs : List Nat} {args : List V} {H H1 H2 : MH} {fr fr1 fr2 : Fr} {v : V} {D : MDef} {ss : Ss} {h h1 : MH} {e : E}
theorem fDef_nxt0 (hb : D.body = .stmts ss) (hc : D.cells = []) (hp : stTs D.ps args ⟨[], D.fv.zip cs⟩ H = some (fr1, H1)) (h : fSs G C n ss fr1 H1 = some (.nxt, fr2, H2)) : runDef G C n D cs args H = some (.none, H2) :=
  fDef_nxt hb (by rw [hc]; show stTs _ _ _ (H ++ []) = _; rw [List.append_nil]; exact hp) h
theorem x_asgC3 {x y z : Nat} (h0 : fE G C n e fr h = some (v, h1)) : fS G C n (.asgC [.loc x, .loc y, .loc z] e) fr h = some (.nxt, ⟨put (put (put fr.loc x v) y v) z v, fr.cel⟩, h1) := bnd_of h0 rfl
theorem tuple_at {i : Nat} {vs : List V} (e : h[i]? = some (.list vs)) (hs : vs.length < 16777217) : primV .tuple [.ref i] h = some (.tup vs, h) := by
  show onL (listAt h i) (fun vs => if vs.length < 16777217 then some (V.tup vs, h) else none) = _
  rw [listAt_of e]; exact if_pos hs
end
theorem new_ws {d : Nat} {w : List Nat} {H H2 : MH} (e : runDef GG (CI d) 200 dWhitespace___init__ [] [.ref (H.length + 1), .str w] (H ++ [.dict [], .inst 1 H.length]) = some (.none, H2)) : CI (d + 1) (.con 19) [.str w] H = some (.ref (H.length + 1), H2) := by
  show onSm (DD.fn 19) (onL (DD.cls 19) fun q => clsK GG DD (CI d) 200 q.1 q.2 [.str w] H) (fun D => runDef GG (CI d) 200 D [] [.str w] H) = _
  rw [show DD.fn 19 = none by rfl]
  show onL (DD.cls 19) (fun q => clsK GG DD (CI d) 200 q.1 q.2 [.str w] H) = _
  rw [onL_of (show DD.cls 19 = some (1, 304) by rfl)]
  unfold clsK
  rw [onL_of (show DD.fn 304 = some dWhitespace___init__ by rfl)]
  exact bnd_of e rfl
theorem wsRun_le : ∀ (w : List Nat) (t : WsT) (K : Nat), t.cnt.length ≤ K → t.b ≤ K → (wsRun w t).cnt.length ≤ K + w.length ∧ (wsRun w t).b ≤ K + w.length
  | [], t, K, h1, h2 => ⟨by simpa [wsRun] using h1, by simpa [wsRun] using h2⟩
  | c :: r, t, K, h1, h2 => by
    obtain ⟨g1, g2⟩ := wsStep_le (c := c) h1 h2
    have := wsRun_le r (wsStep t c) (K + 1) g1 g2
    rw [List.length_cons, wsRun]; (first | lia | omega)
theorem whitespace_core {d L : Nat} {w : List Nat} {H0 : MH} (hw : allBT w = true) (hl : w.length ≤ 150) (a0 : H0[L]? = some (.dict [])) (a1 : H0[L + 1]? = some (.inst 1 L)) (hL : H0.length = L + 2) : ∃ H2 : MH, runDef GG (CI d) 200 dWhitespace___init__ [] [.ref (L + 1), .str w] H0 = some (.none, H2) ∧ (∀ (i : Nat) o, i < L → H0[i]? = some o → H2[i]? = some o) ∧
    H2[L + 1]? = some (.inst 1 L) ∧ H2[L]? = some (.dict (wsKV w (wsRun w ⟨[], 0, 0, 0⟩))) := by
  -- the self's dict after the first store, and the list
  have b0 := app_at (L := [AO.list []]) (set_at (x := .dict [(75, .str w)]) a0)
  have b1 := app_at (L := [AO.list []]) (set_ne (i := L) (x := .dict [(75, .str w)]) (by (first | lia | omega)) a1)
  have hz : (H0.set L (.dict [(75, .str w)])).length = L + 2 := by rw [List.length_set, hL]
  have I : WsI (.ref (L + 1)) (L + 2) (H0.set L (.dict [(75, .str w)]) ++ [AO.list []]) ⟨[(57, .ref (L + 1)), (71, .str w), (76, .str [32]), (77, .str [9]), (6, .ref (H0.set L (.dict [(75, .str w)])).length), (32, .int (0 : Nat)), (33, .int (0 : Nat)), (74, .int (0 : Nat))], []⟩ (H0.set L (.dict [(75, .str w)]) ++ [AO.list []]) ⟨[], 0, 0, 0⟩ :=
    ⟨rfl, rfl, rfl, ⟨_, Nat.le_of_eq hz.symm, rfl, app_new⟩, rfl, rfl, rfl, fun i o _ e => e, by rw [List.length_append, hz]; (first | lia | omega)⟩
  obtain ⟨fr', H', e, J⟩ := ws_loop (C := CI d) w 200 0 _ _ _ I hw (by (first | lia | omega)) (by simp) (by simp) (by (first | lia | omega))
  obtain ⟨c1, c2⟩ := wsRun_le w ⟨[], 0, 0, 0⟩ 0 (by simp) (by simp)
  generalize wsRun w ⟨[], 0, 0, 0⟩ = t at *
  obtain ⟨l, hl2, e6, hll⟩ := J.e6
  have j0 := J.keep L _ (by (first | lia | omega)) b0
  have j1 := J.keep (L + 1) _ (by (first | lia | omega)) b1
  have nl : L ≠ l := by (first | lia | omega)
  have nL : L ≠ L + 1 := by (first | lia | omega)
  have hlen := len_at (set_ne (x := .dict (put (put (put [(75, .str w)] 33 (.int t.n)) 74 (.int t.nt)) 73 (.tup [.tup (t.cnt.map .int), .int t.b]))) nl (set_ne (x := .dict (put (put [(75, .str w)] 33 (.int t.n)) 74 (.int t.nt))) nl (set_ne (x := .dict (put [(75, .str w)] 33 (.int t.n))) nl hll))) (by rw [List.length_map]; (first | lia | omega))
  rw [List.length_map] at hlen
  refine ⟨_, fDef_nxt0 (fr2 := fr') rfl rfl rfl (x_cons (x_setA (y_loc rfl) (y_loc rfl) (setA_at a1 a0 (by rfl) rfl rfl)) (x_cons (x_asg2 (y_tup (y_cons (y_att (y_glb rfl) rfl) (y_cons (y_att (y_glb rfl) rfl) y_nil)) (Nat.le_of_ble_eq_true rfl)))
    (x_cons (x_asg (y_lst y_nil (Nat.le_of_ble_eq_true rfl))) (x_cons (x_asgC3 rfl) (x_cons (x_for (y_att (y_loc rfl) (attr_at b1 b0 rfl (by rfl))) rfl ?lp)
      (x_cons (x_setA (y_loc J.e33) (y_loc J.e57) (setA_at j1 j0 (by rfl) rfl rfl)) (x_cons (x_setA (y_loc J.e74) (y_loc J.e57) (setA_at (set_ne nL j1) (set_at j0) (by rfl) rfl rfl))
        (x_cons (x_setA (y_tup (y_cons (y_prim (y_cons (y_loc e6) y_nil) (tuple_at (set_ne nl (set_ne nl hll)) (by rw [List.length_map]; (first | lia | omega)))) (y_cons (y_loc J.e32) y_nil)) (Nat.le_of_ble_eq_true rfl)) (y_loc J.e57) (setA_at (set_ne nL (set_ne nL j1)) (set_at (set_at j0)) (by rfl) rfl rfl))
          (x_cons (x_setA (y_cmp (y_prim (y_cons (y_loc e6) y_nil) hlen) rfl rfl) (y_loc J.e57) (setA_at (set_ne nL (set_ne nL (set_ne nL j1))) (set_at (set_at (set_at j0))) (by rfl) rfl rfl)) rfl))))))))), ?_, ?_, ?_⟩
  case lp => exact e
  · intro i o hi q
    have ni : L ≠ i := by (first | lia | omega)
    exact set_ne ni (set_ne ni (set_ne ni (set_ne ni (J.keep i o (by (first | lia | omega)) (app_at (set_ne ni q))))))
  · exact set_ne nL (set_ne nL (set_ne nL (set_ne nL j1)))
  · exact set_at (set_at (set_at (set_at j0)))
theorem whitespace {d : Nat} {w : List Nat} (hw : allBT w = true) (hl : w.length ≤ 150) (H : MH) : ∃ H2 : MH, CI (d + 1) (.con 19) [.str w] H = some (.ref (H.length + 1), H2) ∧ (∀ (i : Nat) o, H[i]? = some o → H2[i]? = some o) ∧
    H2[H.length + 1]? = some (.inst 1 H.length) ∧ H2[H.length]? = some (.dict (wsKV w (wsRun w ⟨[], 0, 0, 0⟩))) := by
  obtain ⟨H2, e, k, r⟩ := whitespace_core (d := d) (L := H.length) (H0 := H ++ [.dict [], .inst 1 H.length]) hw hl (by rw [List.getElem?_append_right (Nat.le_refl _), Nat.sub_self]; rfl) (by rw [List.getElem?_append_right (by (first | lia | omega)), Nat.add_sub_cancel_left]; rfl) (by simp)
  exact ⟨H2, new_ws e, fun i o q => k i o (at_lt q) (app_at q), r⟩
end Rz
end P12
section P13
open PySem PySem.W PySem.Calls PyProof.Rows
namespace Rz
set_option linter.unusedVariables false
set_option linter.unusedSimpArgs false
set_option maxRecDepth 100000
theorem CI_fn {d k : Nat} {D : MDef} {vs : List V} {H : MH} (hk : memN pureK k = false) (hD : DD.fn k = some D) : CI (d + 1) (.con k) vs H = runDef GG (CI d) 200 D [] vs H := by
  rw [CI_succ]
  show (bif memN pureK k then _ else runK GG DD (CI d) 200 (.con k) vs H) = _
  rw [hk, cond_false, runK_fn hD]
theorem iterOf_rng {a b c : Int} {h : MH} : iterOf (.rng a b c) h = if Builtin.Range.small a b c = true then some (.rng a (Builtin.Range.rangeSize a b c).toNat c) else none := rfl
theorem len_tup {vs : List V} {h : MH} (hs : vs.length < 16777217) : primV .len [.tup vs] h = some (.int (vs.length : Nat), h) := by
  show (if vs.length < 16777217 then some (V.int (vs.length : Nat), h) else none) = _
  rw [if_pos hs]
noncomputable def longR (t : WsT) : Int := if (t.b : Int) > (t.cnt.length : Int) - 1 then t.b else (t.cnt.length : Int) - 1
theorem longest {d i dd : Nat} {w : List Nat} {t : WsT} {H : MH} (hi : H[i]? = some (.inst 1 dd)) (hd : H[dd]? = some (.dict (wsKV w t))) (hc : t.cnt.length ≤ 900) : CI (d + 1) (.con 305) [.ref i] H = some (.int (longR t), H) := by
  rw [CI_fn (D := dWhitespace_longest_run_of_spaces) (by rfl) (by rfl)]
  have hl := len_tup (vs := t.cnt.map .int) (h := H) (by rw [List.length_map]; (first | lia | omega))
  rw [List.length_map] at hl
  exact fDef_ret0 rfl rfl rfl (x_cons (x_asg2 (y_att (y_loc rfl) (attr_at hi hd rfl (by rfl)))) (x_ret (y_prim (y_cons (y_bin (y_prim (y_cons (y_loc rfl) y_nil) hl) rfl rfl) (y_cons (y_loc rfl) y_nil)) rfl)))
theorem indent {d i dd : Nat} {w : List Nat} {t : WsT} {H : MH} (hi : H[i]? = some (.inst 1 dd)) (hd : H[dd]? = some (.dict (wsKV w t))) (hc : t.cnt.length ≤ 9) (hn : t.nt ≤ 900) : CI (d + 1) (.con 306) [.ref i, .int 9] H = some (.int ((t.b : Int) + 9 * t.nt), H) := by
  rw [CI_fn (D := dWhitespace_indent_level) (by rfl) (by rfl)]
  have hl := len_tup (vs := t.cnt.map .int) (h := H) (by rw [List.length_map]; (first | lia | omega))
  rw [List.length_map] at hl
  have hit : iterOf (.rng 9 (t.cnt.length : Int) 1) H = some (.rng 9 0 1) := by
    have hz : Builtin.Range.rangeSize 9 (t.cnt.length : Int) 1 = 0 := by
      unfold Builtin.Range.rangeSize
      rw [if_pos (by decide), if_neg (by (first | lia | omega))]
    have hs : Builtin.Range.small 9 (t.cnt.length : Int) 1 = true := by
      unfold Builtin.Range.small
      rw [hz]
      simp [Builtin.Range.rangeFitsLong]
      (first | lia | omega)
    rw [iterOf_rng, if_pos hs, hz]; rfl
  exact fDef_ret0 rfl rfl rfl (x_cons (x_asg2 (y_att (y_loc rfl) (attr_at hi hd rfl (by rfl)))) (x_cons (x_asg rfl) (x_cons (x_for (y_prim (y_cons (y_loc rfl) (y_cons (y_prim (y_cons (y_loc rfl) y_nil) hl) y_nil)) rfl) hit (for_stop rfl))
    (x_ret (y_addE (y_loc rfl) (y_mulE (y_loc rfl) (y_addE (y_loc rfl) (y_att (y_loc rfl) (attr_at hi hd rfl (by rfl))) (Int.zero_add _)) (mulOk_nn (k := 4) (l := 10) (by decide) (by decide) (Int.natCast_nonneg _) (by (first | lia | omega)) (by decide)) rfl) rfl)))))
end Rz
end P13
section P14
open PySem PySem.W PySem.Calls PyProof.Rows
namespace Rz
set_option linter.unusedVariables false
set_option linter.unusedSimpArgs false
set_option maxRecDepth 100000
noncomputable def figOf (c : Nat) : Int := match Nat.beq c 9 with
  | true => 1
  | false => 0
noncomputable def figsOf : List Nat → List Int → List Int
  | [], ps => ps
  | c :: r, ps => figsOf r (figOf c :: ps)
noncomputable def lawBody : Ss := forBody (nthS 21 lawRest)
noncomputable def sgBody : Ss := forBody (nthS 8 lawBody)
theorem figOf_01 (c : Nat) : figOf c = 0 ∨ figOf c = 1 := by
  unfold figOf
  split
  · exact .inr rfl
  · exact .inl rfl
theorem figs_cons {n : Nat} {c : Nat} {ps : List Int} (hn : 1 ≤ n) (h : Figs n ps) : Figs n (figOf c :: ps) := fun x m => by
  rcases List.mem_cons.mp m with rfl | m
  · have := p2le (show 1 ≤ n by (first | lia | omega))
    rcases figOf_01 c with e | e <;> rw [e] <;> (first | lia | omega)
  · exact h x m
theorem figsOf_len : ∀ (w : List Nat) (ps : List Int), (figsOf w ps).length = w.length + ps.length
  | [], ps => by simp [figsOf]
  | c :: r, ps => by rw [figsOf, figsOf_len r, List.length_cons, List.length_cons]; (first | lia | omega)
theorem figsOf_figs {n : Nat} (hn : 1 ≤ n) : ∀ (w : List Nat) (ps : List Int), Figs n ps → Figs n (figsOf w ps)
  | [], ps, h => h
  | c :: r, ps, h => figsOf_figs hn r _ (figs_cons hn h)
theorem sg_loop {C : Call} {n : Nat} (hn1 : 1 ≤ n) (hn : n ≤ 20000) : ∀ (w : List Nat) (m : Nat) (fr : Fr) (H : MH) (ps : List Int) (p : Nat), w.length < m → w.length + ps.length ≤ 1000 → Figs n ps →
    lk fr.loc 116 = some (.int (2 ^ n)) → lk fr.loc 106 = some (.int (valD n ps)) → lk fr.loc 122 = some (.ref p) → H[p]? = some (.list (ps.map .int)) →
    ∃ (fr' : Fr) (H' : MH) (p' : Nat), forL (nextI C) (fun v fr h => (stT (.loc 123) v fr h).bind fun q => fSs GG C 200 sgBody q.1 q.2) m (.str w) fr H = some (.nxt, fr', H') ∧ fr'.cel = fr.cel ∧ lk fr'.loc 106 = some (.int (valD n (figsOf w ps))) ∧ lk fr'.loc 122 = some (.ref p') ∧ H'[p']? = some (.list ((figsOf w ps).map .int)) ∧
      (∀ (i : Nat) o, H[i]? = some o → H'[i]? = some o) ∧ (∀ y v, memN [123, 124, 106, 122] y = false → lk fr.loc y = some v → lk fr'.loc y = some v)
  | [], m, fr, H, ps, p, hm, hl, hF, e1, e2, e3, hp => by
    obtain ⟨m, rfl⟩ := fuel hm
    exact ⟨fr, H, p, for_stop rfl, rfl, e2, e3, hp, fun i o e => e, fun y v _ e => e⟩
  | c :: r, m, fr, H, ps, p, hm, hl, hF, e1, e2, e3, hp => by
    obtain ⟨m, rfl⟩ := fuel hm
    rw [List.length_cons] at hm hl
    obtain ⟨b1, b2⟩ := valD_bound hF
    have pn := p2pos n
    have bl : n * ps.length ≤ 20000 * 1000 := Nat.mul_le_mul hn (by (first | lia | omega))
    have hmul : mulOk (valD n ps) (2 ^ n) = true := mulOk_nn b1 b2 (Int.le_of_lt pn) (l := n + 1) (by rw [Int.pow_succ]; (first | lia | omega)) (by (first | lia | omega))
    have hv : valD n ps * 2 ^ n + figOf c = valD n (figOf c :: ps) := by rw [valD, Int.mul_comm]; exact Int.add_comm _ _
    have he : ∀ h, fE GG C 200 (.ife (.cmp .Eq (.loc 123) (.lit (.str [9]))) (.lit (.int 1)) (.lit (.int 0))) ⟨put fr.loc 123 (.str [c]), fr.cel⟩ h = some (.int (figOf c), h) := fun h => by
      have hq : natsEq [c] [9] = Nat.beq c 9 := by
        show (match Nat.beq c 9 with | true => natsEq [] [] | false => false) = _
        cases Nat.beq c 9 <;> rfl
      cases hb : Nat.beq c 9 with
      | true =>
        rw [show figOf c = 1 by unfold figOf; rw [hb]]
        exact y_ifT (y_tcmp (y_loc lk_eq) rfl (by show some (natsEq [c] [9]) = some true; rw [hq, hb])) rfl
      | false =>
        rw [show figOf c = 0 by unfold figOf; rw [hb]]
        exact y_ifF (y_tcmp (y_loc lk_eq) rfl (by show some (natsEq [c] [9]) = some false; rw [hq, hb])) rfl
    obtain ⟨fr', H', p', g1, g2, g3, g4, g5, g6, g7⟩ := sg_loop hn1 hn r m ⟨put (put (put (put fr.loc 123 (.str [c])) 124 (.int (figOf c))) 106 (.int (valD n (figOf c :: ps)))) 122 (.ref (H ++ [AO.list [.int (figOf c)]]).length), fr.cel⟩
      (H ++ [AO.list [.int (figOf c)]] ++ [AO.list ([.int (figOf c)] ++ ps.map .int)]) (figOf c :: ps) (H ++ [AO.list [.int (figOf c)]]).length (by (first | lia | omega)) (by rw [List.length_cons]; (first | lia | omega)) (figs_cons hn1 hF)
      (lk_ne rfl (lk_ne rfl (lk_ne rfl (lk_ne rfl e1)))) (lk_ne rfl lk_eq) lk_eq app_new
    refine ⟨fr', H', p', (for_go rfl (x_bind (x_cons (x_asg (he H)) (x_cons (x_asg (y_addE (y_mulE (y_loc (lk_ne rfl (lk_ne rfl e2))) (y_loc (lk_ne rfl (lk_ne rfl e1))) hmul rfl) (y_loc lk_eq) hv))
      (x_cons (x_asg (y_bin (y_lst (y_cons (y_loc (lk_ne rfl lk_eq)) y_nil) (Nat.le_of_ble_eq_true rfl)) (y_loc (lk_ne rfl (lk_ne rfl (lk_ne rfl e3)))) (add_at app_new (app_at hp) (by rw [List.length_map]; simp; (first | lia | omega))))) rfl))))).trans g1, g2, g3, g4, g5, fun i o e => g6 i o (app_at (app_at e)), fun y v hy e => g7 y v hy ?_⟩
    have n1 : y ≠ 123 := fun q => by subst q; cases hy
    have n2 : y ≠ 124 := fun q => by subst q; cases hy
    have n3 : y ≠ 106 := fun q => by subst q; cases hy
    have n4 : y ≠ 122 := fun q => by subst q; cases hy
    rw [lk_put, if_neg n4, lk_put, if_neg n3, lk_put, if_neg n2, lk_put, if_neg n1]
    exact e
/-! one and the same rest -/
noncomputable def ulP : List Int → Int × Int
  | [] => (0, 0)
  | f :: ds => ((ulP ds).1 + (ulP ds).2, (ulP ds).1 + f)
theorem ulP_spec (n : Nat) : ∀ ds : List Int, ∃ Q : Int, valD n ds = Q * (2 ^ n * 2 ^ n - 2 ^ n - 1) + ((ulP ds).1 * 2 ^ n + (ulP ds).2)
  | [] => ⟨0, by simp [valD, ulP]⟩
  | f :: ds => by
    obtain ⟨Q, hQ⟩ := ulP_spec n ds
    refine ⟨2 ^ n * Q + (ulP ds).1, ?_⟩
    rw [valD, ulP, hQ]
    dsimp only
    generalize (ulP ds).1 = U
    generalize (ulP ds).2 = L
    generalize (2 : Int) ^ n = B
    have h1 : (B * Q + U) * (B * B - B - 1) = B * (Q * (B * B - B - 1)) + U * (B * B - B - 1) := by rw [Int.add_mul, Int.mul_assoc]
    have h2 : U * (B * B - B - 1) = U * B * B - U * B - U := by rw [Int.mul_sub, Int.mul_sub, Int.mul_one, Int.mul_assoc]
    have h3 : B * (Q * (B * B - B - 1) + (U * B + L)) = B * (Q * (B * B - B - 1)) + (U * B * B + L * B) := by rw [Int.mul_add, Int.mul_add, Int.mul_comm B (U * B), Int.mul_comm B L]
    rw [h1, h2, h3, Int.add_mul]
    (first | lia | omega)
/-- what the law asks of a word's number -/
theorem rest_law {n U L Q : Int} {B D x : Int} (hB : 64 ≤ B) (hD : D = B * B - B - 1) (hU : 0 ≤ U ∧ U ≤ 40) (hL : 0 ≤ L ∧ L ≤ 40) (h1 : 1 ≤ U + L) (hx : x = Q * D + (U * B + L)) :
    x % D = U * B + L ∧ x / D = Q ∧ 0 < D ∧ -x / D = -Q - 1 ∧ -x % D = D - (U * B + L) ∧ (U * B + L) / B = U ∧ (U * B + L) % B = L := by
  have g1 : 0 ≤ U * B := Int.mul_nonneg hU.1 (by (first | lia | omega))
  have g2 : U * B ≤ 40 * B := Int.mul_le_mul_of_nonneg_right hU.2 (by (first | lia | omega))
  have g3 : 64 * B ≤ B * B := Int.mul_le_mul_of_nonneg_right hB (by (first | lia | omega))
  have g4 : 1 ≤ U * B + L := by
    by_cases hz : U = 0
    · subst hz; (first | lia | omega)
    · have := Int.mul_le_mul_of_nonneg_right (show 1 ≤ U by (first | lia | omega)) (show 0 ≤ B by (first | lia | omega))
      (first | lia | omega)
  have hDp : 0 < D := by (first | lia | omega)
  obtain ⟨a1, a2⟩ := kbt_unique (a := x) (q := Q) (r := U * B + L) hDp (by rw [hx, Int.mul_comm D Q]; (first | lia | omega)) (by (first | lia | omega)) (by (first | lia | omega))
  obtain ⟨b1, b2⟩ := kbt_unique (a := -x) (q := -Q - 1) (r := D - (U * B + L)) hDp (by
    rw [hx, Int.mul_sub, Int.mul_neg, Int.mul_one, Int.mul_comm D Q]; (first | lia | omega)) (by (first | lia | omega)) (by (first | lia | omega))
  obtain ⟨c1, c2⟩ := kbt_unique (a := U * B + L) (q := U) (r := L) (show 0 < B by (first | lia | omega)) (by rw [Int.mul_comm B U]; (first | lia | omega)) hL.1 (by (first | lia | omega))
  exact ⟨a2, a1, hDp, b1, b2, c1, c2⟩
end Rz
end P14
section P15
open PySem PySem.W PySem.Calls PyProof.Rows
namespace Rz
set_option linter.unusedVariables false
set_option linter.unusedSimpArgs false
set_option maxRecDepth 100000
noncomputable def t0 : WsT := ⟨[], 0, 0, 0⟩
noncomputable def wordOK (greedy lazy : List Nat) (U L : Int) (w : List Nat) : Bool := allBT w && Nat.beq w.length 8 && (match firstSign 9 w 0 with
  | some k => allBT (sliceS w (some (k : Int)) none) && Nat.ble (sliceS w (some (k : Int)) none).length 8 && Nat.beq (wsRun w t0).n 8 && Nat.beq (wsRun w t0).nt (countSign 9 w) && Nat.ble (wsRun w t0).nt 9 && Nat.ble (wsRun w t0).cnt.length 9 && (match (wsRun (sliceS w (some (k : Int)) none) t0).cnt with
    | c0 :: _ => decide (c0 = 1) == natsEq w greedy
    | [] => false) && (decide (longR (wsRun (sliceS w (some (k : Int)) none) t0) ≤ 1) == natsEq w lazy)
  | none => false) && decide ((ulP (figsOf w [])).1 = U) && decide ((ulP (figsOf w [])).2 = L)
noncomputable def colOf (w : List Nat) : Int := ((wsRun w t0).b : Int) + 9 * (wsRun w t0).nt
section
variable {G : Gl} {C : Call} {n : Nat} {fr : Fr} {h h1 h2 h3 : MH} {x y z : T}
theorem t_or3 (hx : fT G C n x fr h = some (false, h)) (hy : fT G C n y fr h = some (false, h)) (hz : fT G C n z fr h = some (false, h)) : fT G C n (.bop .Or (.cons x (.cons y (.cons z .nil)))) fr h = some (false, h) := by
  rw [f_tbop, f_aor, hx, Option.bind_some]
  show fA G C n (.cons y (.cons z .nil)) .Or fr h = _
  rw [f_aor, hy, Option.bind_some]
  show fA G C n (.cons z .nil) .Or fr h = _
  rw [f_aor, hz]; rfl
theorem y_slc {o a b : E} {vo va vb : V} {r : Option (V × MH)} (ho : fE G C n o fr h = some (vo, h1)) (ha : fE G C n a fr h1 = some (va, h2)) (hb : fE G C n b fr h2 = some (vb, h3)) (hr : slcV vo va vb h3 = r) : fE G C n (.slc o a b) fr h = r := bnd_of ho (bnd_of ha (bnd_of hb hr))
theorem slc_from {s : List Nat} {k : Int} (hs : s.length ≤ 16777216) : slcV (.str s) (.int k) .none h = some (.str (sliceS s (some k) none), h) := by
  show (if s.length ≤ 16777216 then some (V.str (sliceS s (some k) none), h) else none) = _
  rw [if_pos hs]
theorem m_index {s : List Nat} {c k : Nat} (hk : firstSign c s 0 = some k) : biM 7 (.str s) [.str [c]] h = some (.int (k : Nat), h) := by
  show onL (firstSign c s 0) (fun k => some (V.int (k : Nat), h)) = _
  rw [hk]; rfl
theorem idx_tup {vs : List V} {v : V} {k : Nat} (hk : k < 16777216) (hv : vs[k]? = some v) : idxV (.tup vs) (.int (k : Nat)) h = some v := by
  show (if k < 16777216 then vs[k]? else none) = _
  rw [if_pos hk, hv]
theorem ne_bool {a b : Bool} (e : (a == b) = true) : cmpV .NotEq (.bool a) (.bool b) h = some false := by
  show some (!(a == b)) = _
  rw [e]; rfl
theorem ne_pair {a b c d : Int} (e1 : a = c) (e2 : b = d) : cmpV .NotEq (.tup [.int a, .int b]) (.tup [.int c, .int d]) h = some false := by
  subst e1; subst e2
  show some (!(decide (a = a) && (decide (b = b) && true))) = _
  simp
theorem callee_list {i x : Nat} {vs : List V} (e : h[i]? = some (.list vs)) : calleeV G (.ref i) x h = some (.bi (.ref i)) := onL_of e
end
theorem memN_iff {y : Nat} : ∀ {l : List Nat}, memN l y = false ↔ ∀ z ∈ l, y ≠ z
  | [] => by simp [memN]
  | a :: r => by
    have ih := memN_iff (y := y) (l := r)
    unfold memN
    by_cases h : a = y
    · subst h; simp
    · rw [show Nat.beq a y = false by cases hb : Nat.beq a y with | true => exact absurd (Nat.eq_of_beq_eq_true hb) h | false => rfl]
      dsimp only
      rw [ih]
      simp [Ne.symm h]
theorem memN_ne {l : List Nat} {y z : Nat} (hy : memN l y = false) (h : memN l z = true) : y ≠ z := fun e => by rw [e, h] at hy; cases hy
theorem memN_mono {l l' : List Nat} {y : Nat} (hy : memN l' y = false) (h : l.all (memN l') = true) : memN l y = false :=
  memN_iff.mpr fun z hz => memN_ne hy (List.all_eq_true.mp h z hz)
theorem div_bits {n : Nat} (hn : 6 ≤ n) : 2 ^ (2 * n - 1) ≤ (2 : Int) ^ n * 2 ^ n - 2 ^ n - 1 ∧ (2 : Int) ^ n * 2 ^ n - 2 ^ n - 1 < 2 ^ (2 * n) := by
  have e1 : (2 : Int) ^ (2 * n) = 2 ^ n * 2 ^ n := by rw [← p2add]; congr 1; (first | lia | omega)
  have e2 : (2 : Int) ^ (2 * n - 1) = 2 ^ n * 2 ^ (n - 1) := by rw [← p2add]; congr 1; (first | lia | omega)
  have e3 : (2 : Int) ^ n = 2 * 2 ^ (n - 1) := by rw [show n = n - 1 + 1 by (first | lia | omega), Int.pow_succ, Nat.add_sub_cancel, Int.mul_comm]
  have p := p2pos n
  have q : (2 : Int) ^ 5 ≤ 2 ^ (n - 1) := p2le (by (first | lia | omega))
  have e4 : (2 : Int) ^ n * 2 ^ n = 2 * (2 ^ n * 2 ^ (n - 1)) := by rw [← Int.mul_assoc, Int.mul_comm 2, Int.mul_assoc, ← e3]
  have e5 := Int.mul_le_mul_of_nonneg_left q (Int.le_of_lt p)
  rw [e1, e2]
  (first | lia | omega)
theorem body_ok {n : Nat} {U L : Int} {greedy lazy w : List Nat} {fr : Fr} {H : MH} {q : Nat} {cols : List Int} (hn6 : 6 ≤ n) (hn : n ≤ 5005) (hU : 0 ≤ U ∧ U ≤ 40) (hL : 0 ≤ L ∧ L ≤ 40) (hUL : 1 ≤ U + L) (hw : wordOK greedy lazy U L w = true)
    (e51 : lk fr.loc 51 = some (.int U)) (e4 : lk fr.loc 4 = some (.int L)) (e113 : lk fr.loc 113 = some (.str greedy)) (e115 : lk fr.loc 115 = some (.str lazy)) (e116 : lk fr.loc 116 = some (.int (2 ^ n))) (e118 : lk fr.loc 118 = some (.int (2 ^ n * 2 ^ n - 2 ^ n - 1))) (e121 : lk fr.loc 121 = some (.int n))
    {i4 : Nat} (hc : lk fr.cel 111 = some i4) (h4 : H[i4]? = some (.cell (some (.ref q)))) (hq : H[q]? = some (.list (cols.map .int))) (hcl : cols.length ≤ 300) :
    ∃ (fr' : Fr) (H' : MH), fSs GG (CI 30) 200 lawBody ⟨put fr.loc 100 (.str w), fr.cel⟩ H = some (.nxt, fr', H') ∧ fr'.cel = fr.cel ∧ (∀ y v, memN [100, 125, 126, 106, 122, 123, 124, 119, 120, 117] y = false → lk fr.loc y = some v → lk fr'.loc y = some v) ∧
      H'[q]? = some (.list ((cols ++ [colOf w]).map .int)) ∧ (∀ (i : Nat) o, i ≠ q → H[i]? = some o → H'[i]? = some o) := by
  unfold wordOK at hw
  simp only [Bool.and_eq_true, decide_eq_true_eq] at hw
  obtain ⟨⟨⟨⟨hbt, hl8⟩, hw⟩, hul1⟩, hul2⟩ := hw
  have hl8 : w.length = 8 := Nat.eq_of_beq_eq_true hl8
  split at hw
  case h_2 => cases hw
  rename_i k hk
  simp only [Bool.and_eq_true] at hw
  obtain ⟨⟨⟨⟨⟨⟨⟨hb2, hb3⟩, hn8⟩, hnt⟩, hnt9⟩, hc9⟩, hc0⟩, hlz⟩ := hw
  have hb3 := Nat.le_of_ble_eq_true hb3
  have hn8 : (wsRun w t0).n = 8 := Nat.eq_of_beq_eq_true hn8
  have hnt : (wsRun w t0).nt = countSign 9 w := Nat.eq_of_beq_eq_true hnt
  have hnt9 := Nat.le_of_ble_eq_true hnt9
  have hc9 := Nat.le_of_ble_eq_true hc9
  -- the two objects
  obtain ⟨H1, c1, k1, a1, a2⟩ := whitespace (d := 29) hbt (by (first | lia | omega)) H
  obtain ⟨H2, c2, k2, b1, b2⟩ := whitespace (d := 29) hb2 (by (first | lia | omega)) H1
  change H1[H.length]? = some (.dict (wsKV w (wsRun w t0))) at a2
  change H2[H1.length]? = some (.dict (wsKV (sliceS w (some (k : Int)) none) (wsRun (sliceS w (some (k : Int)) none) t0))) at b2
  have hbl := (wsRun_le (sliceS w (some (k : Int)) none) t0 0 (by simp [t0]) (by simp [t0])).1
  have hbw : ∀ h : MH, slcV (.str w) (.int (k : Nat)) .none h = some (.str (sliceS w (some (k : Int)) none), h) := fun h => slc_from (by (first | lia | omega))
  generalize sliceS w (some (k : Int)) none = bw at *
  generalize hl1 : H.length + 1 = l1 at *
  generalize hl2 : H1.length + 1 = l2 at *
  have a1' := k2 _ _ a1
  have a2' := k2 _ _ a2
  have q2 := k2 _ _ (k1 _ _ hq)
  have h42 := k2 _ _ (k1 _ _ h4)
  split at hc0
  case h_2 => cases hc0
  rename_i c0 cr hcnt
  have hget : ((wsRun bw t0).cnt.map V.int)[0]? = some (.int c0) := by rw [hcnt]; rfl
  -- the column
  have q3 : (H2.set q (.list (cols.map .int ++ [.int (colOf w)])))[q]? = _ := set_at q2
  have k3 : ∀ (i : Nat) o, i ≠ q → H[i]? = some o → (H2.set q (.list (cols.map .int ++ [.int (colOf w)])))[i]? = some o := fun i o ni e => set_ne (Ne.symm ni) (k2 i o (k1 i o e))
  have happ : biM 1 (.ref q) [.int (colOf w)] H2 = some (.none, H2.set q (.list (cols.map .int ++ [.int (colOf w)]))) := m_append (listAt_of q2) (by rw [List.length_map]; (first | lia | omega))
  generalize hH3 : H2.set q (.list (cols.map .int ++ [.int (colOf w)])) = H3 at *
  -- the signs
  have hF := figsOf_figs (n := n) (by (first | lia | omega)) w [] (fun x hx => by cases hx)
  have hlen : (figsOf w []).length = 8 := by rw [figsOf_len, hl8]; rfl
  obtain ⟨frS, H5, p', s1, s2, s3, s4, s5, s6, s7⟩ := sg_loop (C := CI 30) (n := n) (by (first | lia | omega)) (by (first | lia | omega)) w 200 ⟨put (put (put (put (put fr.loc 100 (.str w)) 125 (.ref l1)) 126 (.ref l2)) 106 (.int 0)) 122 (.ref H3.length), fr.cel⟩ (H3 ++ [.list []]) [] H3.length (by (first | lia | omega)) (by rw [hl8]; decide) (fun x hx => by cases hx)
    (lk_ne rfl (lk_ne rfl (lk_ne rfl (lk_ne rfl (lk_ne rfl e116))))) (lk_ne rfl lk_eq) lk_eq app_new
  have d2 := digits2int (d := 29) hF (by (first | lia | omega)) (by (first | lia | omega)) (by (first | lia | omega)) (listAt_of s5)
  obtain ⟨x0, x1⟩ := valD_bound hF
  rw [hlen] at x1
  obtain ⟨Q, hQ⟩ := ulP_spec n (figsOf w [])
  rw [hul1, hul2] at hQ
  obtain ⟨g1, g2⟩ := div_bits hn6
  have hB : (64 : Int) ≤ 2 ^ n := p2le (i := 6) hn6
  obtain ⟨r1, r2, r3, r4, r5, r6, r7⟩ := rest_law (n := 0) (D := 2 ^ n * 2 ^ n - 2 ^ n - 1) hB rfl hU hL hUL hQ
  generalize valD n (figsOf w []) = X at *
  have hX2 : X < 2 ^ (2 * n * 8) := Int.lt_of_lt_of_le x1 (p2le (by (first | lia | omega)))
  have dm1 := int_divmod (d := 27) (a := X) (by decide) (show 1 ≤ 2 * n by (first | lia | omega)) (by (first | lia | omega)) g1 g2 hX2 (by have := p2pos (2 * n * 8); (first | lia | omega))
  have dm2 := int_divmod (d := 27) (a := -X) (by decide) (show 1 ≤ 2 * n by (first | lia | omega)) (by (first | lia | omega)) g1 g2 (by have := p2pos (2 * n * 8); (first | lia | omega)) (by (first | lia | omega))
  have hR0 : 0 ≤ U * 2 ^ n + L := by rw [← r1]; exact Int.emod_nonneg _ (Int.ne_of_gt r3)
  have hR1 : U * 2 ^ n + L < 2 ^ ((n + 1) * 8) := by
    have := Int.emod_lt_of_pos X r3
    rw [r1] at this
    exact Int.lt_trans this (Int.lt_of_lt_of_le g2 (p2le (by (first | lia | omega))))
  have dm3 := int_divmod (d := 27) (a := U * 2 ^ n + L) (b := 2 ^ n) (n := n + 1) (by decide) (by (first | lia | omega)) (by (first | lia | omega)) (Int.le_refl _) (by rw [Int.pow_succ]; (first | lia | omega)) hR1 (by have := p2pos ((n + 1) * 8); (first | lia | omega))
  rw [r1, r2] at dm1
  rw [r4, r5] at dm2
  rw [r6, r7] at dm3
  have hQ0 : 0 ≤ Q := by rw [← r2]; exact Int.ediv_nonneg x0 (Int.le_of_lt r3)
  have hQ1 : Q < 2 ^ (n * 8) := by
    refine Int.lt_of_le_of_lt ?_ x1
    rw [← r2]; exact Int.ediv_le_self _ x0
  have m1 : mulOk U (2 ^ n) = true := mulOk_nn (k := 6) (l := n + 1) hU.1 (by have := hU.2; (first | lia | omega)) (by (first | lia | omega)) (by rw [Int.pow_succ]; (first | lia | omega)) (by (first | lia | omega))
  have m2 : mulOk Q (2 ^ n * 2 ^ n - 2 ^ n - 1) = true := mulOk_nn hQ0 hQ1 (by (first | lia | omega)) g2 (by (first | lia | omega))
  -- what the frame holds after the signs
  have f51 := s7 51 _ rfl (lk_ne rfl (lk_ne rfl (lk_ne rfl (lk_ne rfl (lk_ne rfl e51)))))
  have f4 := s7 4 _ rfl (lk_ne rfl (lk_ne rfl (lk_ne rfl (lk_ne rfl (lk_ne rfl e4)))))
  have f116 := s7 116 _ rfl (lk_ne rfl (lk_ne rfl (lk_ne rfl (lk_ne rfl (lk_ne rfl e116)))))
  have f118 := s7 118 _ rfl (lk_ne rfl (lk_ne rfl (lk_ne rfl (lk_ne rfl (lk_ne rfl e118)))))
  have f121 := s7 121 _ rfl (lk_ne rfl (lk_ne rfl (lk_ne rfl (lk_ne rfl (lk_ne rfl e121)))))
  refine ⟨⟨put (put (put frS.loc 119 (.int X)) 120 (.int Q)) 117 (.int (U * 2 ^ n + L)), frS.cel⟩, H5, ?_, s2, fun y v hy e => ?_, ?_, fun i o ni e => s6 i o (app_at (k3 i o ni e))⟩
  · refine x_cons (x_asg (y_call (y_glb rfl) (y_cons (y_loc lk_eq) y_nil) c1)) <|
      x_cons (x_asg (y_call (y_glb rfl) (y_cons (y_slc (y_loc (lk_ne rfl lk_eq)) (y_bi (y_loc (lk_ne rfl lk_eq)) rfl (y_cons rfl y_nil) (m_index hk)) rfl (hbw _)) y_nil) c2)) <|
      x_cons (x_skip (y_tcmp (y_tup (y_cons (y_att (y_loc (lk_ne rfl lk_eq)) (attr_at a1' a2' rfl (by rfl))) (y_cons (y_att (y_loc (lk_ne rfl lk_eq)) (attr_at a1' a2' rfl (by rfl))) y_nil)) (Nat.le_of_ble_eq_true rfl)) (y_tup (y_cons rfl (y_cons (y_bi (y_loc (lk_ne rfl (lk_ne rfl lk_eq))) rfl (y_cons rfl y_nil) rfl) y_nil)) (Nat.le_of_ble_eq_true rfl)) (ne_pair (by rw [hn8]; rfl) (by rw [hnt])))) <|
      x_cons (x_skip (y_tcmp (y_cmp (y_idx (y_idx (y_att (y_loc lk_eq) (attr_at b1 b2 rfl (by rfl))) rfl rfl) rfl (idx_tup (k := 0) (by decide) hget)) rfl rfl) (y_cmp (y_loc (lk_ne rfl (lk_ne rfl lk_eq))) (y_loc (lk_ne rfl (lk_ne rfl (lk_ne rfl e113)))) rfl) (ne_bool hc0))) <|
      x_cons (x_skip (y_tcmp (y_cmp (y_val (y_loc lk_eq) (meth_at b1 b2 rfl rfl (by rfl)) y_nil (longest (d := 29) b1 b2 (by (first | lia | omega)))) rfl rfl) (y_cmp (y_loc (lk_ne rfl (lk_ne rfl lk_eq))) (y_loc (lk_ne rfl (lk_ne rfl (lk_ne rfl e115)))) rfl) (ne_bool hlz))) <|
      x_cons (x_ex (y_bi (y_cel hc h42) (callee_list q2) (y_cons (y_val (y_loc (lk_ne rfl lk_eq)) (meth_at a1' a2' rfl rfl (by rfl)) (y_cons rfl y_nil) (indent (d := 29) a1' a2' hc9 (by (first | lia | omega)))) y_nil) (happ))) <|
      x_cons (x_asg rfl) <| x_cons (x_asg (y_lst y_nil (Nat.le_of_ble_eq_true rfl))) <|
      x_cons (x_for (y_loc (lk_ne rfl (lk_ne rfl (lk_ne rfl (lk_ne rfl lk_eq))))) rfl s1) <|
      x_cons (x_asg (y_call (y_glb rfl) (y_cons (y_loc s4) (y_cons (y_loc f121) y_nil)) d2)) <|
      x_cons (x_asg2 (y_call (y_glb rfl) (y_cons (y_loc lk_eq) (y_cons (y_loc (lk_ne rfl f118)) y_nil)) (dm1 _))) <|
      x_cons (x_skip (t_or3 (t_ne_f (y_loc (lk_ne rfl (lk_ne rfl lk_eq))) (y_loc (lk_ne rfl (lk_ne rfl (lk_ne rfl s3)))) rfl)
        (t_ne_f (y_loc lk_eq) (y_addE (y_mulE (y_loc (lk_ne rfl (lk_ne rfl (lk_ne rfl f51)))) (y_loc (lk_ne rfl (lk_ne rfl (lk_ne rfl f116)))) m1 rfl) (y_loc (lk_ne rfl (lk_ne rfl (lk_ne rfl f4)))) rfl) rfl)
        (t_ne_f (y_addE (y_mulE (y_loc (lk_ne rfl lk_eq)) (y_loc (lk_ne rfl (lk_ne rfl (lk_ne rfl f118)))) m2 rfl) (y_loc lk_eq) rfl) (y_loc (lk_ne rfl (lk_ne rfl (lk_ne rfl s3)))) hQ.symm))) <|
      x_cons (x_skip (y_tcmp (y_call (y_glb rfl) (y_cons (y_neg (y_loc (lk_ne rfl (lk_ne rfl lk_eq)))) (y_cons (y_loc (lk_ne rfl (lk_ne rfl (lk_ne rfl f118)))) y_nil)) (dm2 _)) (y_tup (y_cons (y_subE (y_neg (y_loc (lk_ne rfl lk_eq))) rfl rfl) (y_cons (y_subE (y_loc (lk_ne rfl (lk_ne rfl (lk_ne rfl f118)))) (y_loc lk_eq) rfl) y_nil)) (Nat.le_of_ble_eq_true rfl)) (ne_pair rfl rfl))) <|
      x_cons (x_skip (y_tcmp (y_call (y_glb rfl) (y_cons (y_loc lk_eq) (y_cons (y_loc (lk_ne rfl (lk_ne rfl (lk_ne rfl f116)))) y_nil)) (dm3 _)) (y_tup (y_cons (y_loc (lk_ne rfl (lk_ne rfl (lk_ne rfl f51)))) (y_cons (y_loc (lk_ne rfl (lk_ne rfl (lk_ne rfl f4)))) y_nil)) (Nat.le_of_ble_eq_true rfl)) (ne_pair rfl rfl))) rfl
  · have ne : ∀ z, memN [100, 125, 126, 106, 122, 123, 124, 119, 120, 117] z = true → y ≠ z := fun z => memN_ne hy
    show lk (put (put (put frS.loc 119 _) 120 _) 117 _) y = _
    rw [lk_put, if_neg (ne 117 rfl), lk_put, if_neg (ne 120 rfl), lk_put, if_neg (ne 119 rfl)]
    refine s7 y v (memN_mono hy rfl) ?_
    show lk (put (put (put (put (put fr.loc 100 _) 125 _) 126 _) 106 _) 122 _) y = _
    rw [lk_put, if_neg (ne 122 rfl), lk_put, if_neg (ne 106 rfl), lk_put, if_neg (ne 126 rfl), lk_put, if_neg (ne 125 rfl), lk_put, if_neg (ne 100 rfl)]
    exact e
  · rw [s6 q _ (app_at q3), List.map_append]; rfl
end Rz
end P15
section P16
open PySem PySem.W PySem.Calls PyProof.Rows
namespace Rz
set_option linter.unusedVariables false
set_option linter.unusedSimpArgs false
set_option maxRecDepth 100000
section
variable {G : Gl} {C : Call} {n : Nat} {fr : Fr} {h h1 h2 h3 h4 : MH} {v w : V} {x y : Nat} {e : E}
theorem comp_stop {nx : It → MH → Option (Option (V × It) × MH)} {cond : V → MH → Option (Bool × MH)} {elt : V → MH → Option (V × MH)} {acc m : Nat} {it : It} (hn : nx it h = some (none, h1)) : compL nx cond elt acc (m + 1) it h = some h1 := bnd_of hn rfl
theorem comp_no {nx : It → MH → Option (Option (V × It) × MH)} {cond : V → MH → Option (Bool × MH)} {elt : V → MH → Option (V × MH)} {acc m : Nat} {it it' : It} (hn : nx it h = some (some (v, it'), h1)) (hc : cond v h1 = some (false, h2)) : compL nx cond elt acc (m + 1) it h = compL nx cond elt acc m it' h2 := bnd_of hn (bnd_of hc rfl)
theorem comp_yes {nx : It → MH → Option (Option (V × It) × MH)} {cond : V → MH → Option (Bool × MH)} {elt : V → MH → Option (V × MH)} {acc m : Nat} {it it' : It} (hn : nx it h = some (some (v, it'), h1)) (hc : cond v h1 = some (true, h2)) (he : elt v h2 = some (w, h3)) (hp : pushAt h3 acc w = some h4) : compL nx cond elt acc (m + 1) it h = compL nx cond elt acc m it' h4 := bnd_of hn (bnd_of hc (bnd_of he (bnd_of hp rfl)))
theorem push_at {i : Nat} {vs : List V} (e : h[i]? = some (.list vs)) (hs : vs.length ≤ 16777215) : pushAt h i v = some (h.set i (.list (vs ++ [v]))) := (onL_of (listAt_of e)).trans (if_pos hs)
theorem lst_next {i j : Nat} {vs : List V} (e : h[i]? = some (.list vs)) (hv : vs[j]? = some v) : nextI C (.lst i j) h = some (some (v, .lst i (j + 1)), h) := by
  refine (onLst_of e).trans ?_
  rw [hv]; rfl
theorem lst_end {i j : Nat} {vs : List V} (e : h[i]? = some (.list vs)) (hv : vs[j]? = none) : nextI C (.lst i j) h = some (none, h) := by
  refine (onLst_of e).trans ?_
  rw [hv]; rfl
theorem iter_list {i : Nat} {vs : List V} (e : h[i]? = some (.list vs)) : iterOf (.ref i) h = some (.lst i 0) := onL_of e
theorem iter_rng {N : Nat} (hN : N ≤ 1000) : iterOf (.rng 0 (N : Nat) 1) h = some (.rng 0 N 1) := by
  have hz : Builtin.Range.rangeSize 0 (N : Int) 1 = N := by
    unfold Builtin.Range.rangeSize
    rw [if_pos (by decide)]
    by_cases h0 : (0 : Int) < N
    · rw [if_pos h0, Int.ediv_one]; (first | lia | omega)
    · rw [if_neg h0]; (first | lia | omega)
  have hs : Builtin.Range.small 0 (N : Int) 1 = true := by
    unfold Builtin.Range.small
    rw [hz]
    simp [Builtin.Range.rangeFitsLong]
    (first | lia | omega)
  rw [iterOf_rng, if_pos hs, hz]; rfl
theorem min_at {i : Nat} {c : Int} {cs : List Int} (e : h[i]? = some (.list ((c :: cs).map .int))) : primV .min [.ref i] h = some (.int (cs.foldl min c), h) := by
  exact (onL_of (listAt_of e)).trans ((onL_of (intsOf_map _)).trans rfl)
theorem max_at {i : Nat} {c : Int} {cs : List Int} (e : h[i]? = some (.list ((c :: cs).map .int))) : primV .max [.ref i] h = some (.int (cs.foldl max c), h) := by
  exact (onL_of (listAt_of e)).trans ((onL_of (intsOf_map _)).trans rfl)
end
/-- the words at a column -/
noncomputable def selW (m : Int) : List (List Nat) → List Int → List (List Nat)
  | w :: ws, c :: cs => match decide (c = m) with
    | true => w :: selW m ws cs
    | false => selW m ws cs
  | _, _ => []
theorem sel_loop {C : Call} {N i3 i4 c q : Nat} {words : List (List Nat)} {cols : List Int} {cel : List (Nat × Nat)} {p : Prim} {mn : Int} {acc : Nat} (hN : words.length = N) (hN2 : cols.length = N) (hNb : N ≤ 1000) (hc3 : lk cel 110 = some i3) (hc4 : lk cel 111 = some i4)
    (hp : ∀ h : MH, h[q]? = some (.list (cols.map .int)) → primV p [.ref q] h = some (.int mn, h)) (n1 : acc ≠ i3) (n2 : acc ≠ i4) (n3 : acc ≠ c) (n4 : acc ≠ q) : ∀ (k j m : Nat) (H : MH) (as : List (List Nat)), j + k = N → k < m → as.length + k ≤ 10000 →
    H[i3]? = some (.cell (some (.ref c))) → H[c]? = some (.list (words.map .str)) → H[i4]? = some (.cell (some (.ref q))) → H[q]? = some (.list (cols.map .int)) → H[acc]? = some (.list (as.map .str)) →
    ∃ H' : MH, compL (nextI C) (fun v h => fT GG C 200 (.cmp .Eq (.idx (.cel 111) (.loc 107)) (.prim p (.cons (.cel 111) (.nil)))) ⟨[(107, v)], cel⟩ h) (fun v h => fE GG C 200 (.idx (.cel 110) (.loc 107)) ⟨[(107, v)], cel⟩ h) acc m (.rng (j : Nat) k 1) H = some H' ∧
      H'[acc]? = some (.list ((as ++ selW mn (words.drop j) (cols.drop j)).map .str)) ∧ (∀ (i : Nat) o, i ≠ acc → H[i]? = some o → H'[i]? = some o) := by
  intro k
  induction k with
  | zero =>
    intro j m H as hj hm hb h3 hcw h4 hq ha
    obtain ⟨m, rfl⟩ := fuel hm
    refine ⟨H, comp_stop rfl, ?_, fun i o _ e => e⟩
    rw [List.drop_of_length_le (by (first | lia | omega)), selW, List.append_nil]
    · exact ha
    · intro w ws c cs q1 q2; cases q1
  | succ k ih =>
    intro j m H as hj hm hb h3 hcw h4 hq ha
    obtain ⟨m, rfl⟩ := fuel hm
    have jw : j < words.length := by (first | lia | omega)
    have jc : j < cols.length := by (first | lia | omega)
    have gw : (words.map V.str)[j]? = some (.str words[j]) := by rw [List.getElem?_map, List.getElem?_eq_getElem jw]; rfl
    have gc : (cols.map V.int)[j]? = some (.int cols[j]) := by rw [List.getElem?_map, List.getElem?_eq_getElem jc]; rfl
    rw [List.drop_eq_getElem_cons jw, List.drop_eq_getElem_cons jc, selW]
    have cond : fT GG C 200 (.cmp .Eq (.idx (.cel 111) (.loc 107)) (.prim p (.cons (.cel 111) (.nil)))) ⟨[(107, .int (j : Nat))], cel⟩ H = some (decide (cols[j] = mn), H) :=
      y_tcmp (y_idx (y_cel hc4 h4) (y_loc rfl) (idx_ref (listAt_of hq) (by (first | lia | omega)) gc)) (y_prim (y_cons (y_cel hc4 h4) y_nil) (hp _ hq)) rfl
    have elt : fE GG C 200 (.idx (.cel 110) (.loc 107)) ⟨[(107, .int (j : Nat))], cel⟩ H = some (.str words[j], H) :=
      y_idx (y_cel hc3 h3) (y_loc rfl) (idx_ref (listAt_of hcw) (by (first | lia | omega)) gw)
    cases hd : decide (cols[j] = mn) with
    | false =>
      rw [hd] at cond
      obtain ⟨H', e1, e2, e3⟩ := ih (j + 1) m H as (by (first | lia | omega)) (by (first | lia | omega)) (by (first | lia | omega)) h3 hcw h4 hq ha
      exact ⟨H', (comp_no rfl cond).trans e1, e2, e3⟩
    | true =>
      rw [hd] at cond
      have hpush := push_at (v := .str words[j]) ha (by rw [List.length_map]; (first | lia | omega))
      obtain ⟨H', e1, e2, e3⟩ := ih (j + 1) m (H.set acc (.list (as.map .str ++ [.str words[j]]))) (as ++ [words[j]]) (by (first | lia | omega)) (by (first | lia | omega)) (by simp; (first | lia | omega)) (set_ne n1 h3) (set_ne n3 hcw) (set_ne n2 h4) (set_ne n4 hq) (by rw [set_at ha, List.map_append]; rfl)
      refine ⟨H', (comp_yes rfl cond elt hpush).trans e1, ?_, fun i o ni e => e3 i o ni (set_ne (Ne.symm ni) e)⟩
      rw [List.append_assoc] at e2
      exact e2
theorem law_loop {n : Nat} {U L : Int} {greedy lazy : List Nat} {words : List (List Nat)} {i4 c q : Nat} (hn6 : 6 ≤ n) (hn : n ≤ 5005) (hU : 0 ≤ U ∧ U ≤ 40) (hL : 0 ≤ L ∧ L ≤ 40) (hUL : 1 ≤ U + L) (hw : ∀ w ∈ words, wordOK greedy lazy U L w = true) (hlw : words.length ≤ 100) (ncq : c ≠ q) (n4q : i4 ≠ q) : ∀ (k j m : Nat) (fr : Fr) (H : MH) (cols : List Int), j + k = words.length → k < m → cols.length = j →
    lk fr.loc 51 = some (.int U) → lk fr.loc 4 = some (.int L) → lk fr.loc 113 = some (.str greedy) → lk fr.loc 115 = some (.str lazy) → lk fr.loc 116 = some (.int (2 ^ n)) → lk fr.loc 118 = some (.int (2 ^ n * 2 ^ n - 2 ^ n - 1)) → lk fr.loc 121 = some (.int n) →
    lk fr.cel 111 = some i4 → H[i4]? = some (.cell (some (.ref q))) → H[q]? = some (.list (cols.map .int)) → H[c]? = some (.list (words.map .str)) →
    ∃ (fr' : Fr) (H' : MH), forL (nextI (CI 30)) (fun v fr h => (stT (.loc 100) v fr h).bind fun q => fSs GG (CI 30) 200 lawBody q.1 q.2) m (.lst c j) fr H = some (.nxt, fr', H') ∧ fr'.cel = fr.cel ∧ (∀ y v, memN [100, 125, 126, 106, 122, 123, 124, 119, 120, 117] y = false → lk fr.loc y = some v → lk fr'.loc y = some v) ∧
      H'[q]? = some (.list ((cols ++ (words.drop j).map colOf).map .int)) ∧ (∀ (i : Nat) o, i ≠ q → H[i]? = some o → H'[i]? = some o) := by
  intro k
  induction k with
  | zero =>
    intro j m fr H cols hj hm hcl e51 e4 e113 e115 e116 e118 e121 hc h4 hq hcw
    obtain ⟨m, rfl⟩ := fuel hm
    refine ⟨fr, H, for_stop (lst_end hcw (List.getElem?_eq_none (by rw [List.length_map]; (first | lia | omega)))), rfl, fun y v _ e => e, ?_, fun i o _ e => e⟩
    rw [List.drop_of_length_le (by (first | lia | omega)), List.map_nil, List.append_nil]
    exact hq
  | succ k ih =>
    intro j m fr H cols hj hm hcl e51 e4 e113 e115 e116 e118 e121 hc h4 hq hcw
    obtain ⟨m, rfl⟩ := fuel hm
    have jw : j < words.length := by (first | lia | omega)
    have gw : (words.map V.str)[j]? = some (.str words[j]) := by rw [List.getElem?_map, List.getElem?_eq_getElem jw]; rfl
    obtain ⟨fr1, H1, b1, b2, b3, b4, b5⟩ := body_ok hn6 hn hU hL hUL (hw _ (List.getElem_mem jw)) e51 e4 e113 e115 e116 e118 e121 hc h4 hq (by (first | lia | omega))
    obtain ⟨fr2, H2, c1, c2, c3, c4, c5⟩ := ih (j + 1) m fr1 H1 (cols ++ [colOf words[j]]) (by (first | lia | omega)) (by (first | lia | omega)) (by simp [hcl]) (b3 51 _ rfl e51) (b3 4 _ rfl e4) (b3 113 _ rfl e113) (b3 115 _ rfl e115) (b3 116 _ rfl e116) (b3 118 _ rfl e118) (b3 121 _ rfl e121) (by rw [b2]; exact hc) (b5 i4 _ n4q h4) b4 (b5 c _ ncq hcw)
    refine ⟨fr2, H2, (for_go (lst_next hcw gw) (x_bind b1)).trans c1, c2.trans b2, fun y v hy e => c3 y v hy (b3 y v hy e), ?_, fun i o ni e => c5 i o ni (b5 i o ni e)⟩
    rw [List.drop_eq_getElem_cons jw, List.map_cons]
    rw [List.append_assoc] at c4
    exact c4
end Rz
end P16
section P17
open PySem PySem.W PySem.Calls PyProof.Rows
namespace Rz
set_option linter.unusedVariables false
set_option linter.unusedSimpArgs false
set_option maxRecDepth 100000
section
variable {G : Gl} {C : Call} {n : Nat} {fr : Fr} {h h1 h2 h3 h4 : MH} {v w : V} {x y : Nat} {e : E}
theorem y_compIf {elt it : E} {t : T} {fv : List Nat} {vi : V} {j : It} (hi : fE G C n it fr h = some (vi, h1)) (hj : iterOf vi h1 = some j) (hv : fv.all (fun y => (lk fr.cel y).isSome) = true)
    (hl : compL (nextI C) (fun v h => fT G C n t ⟨[(x, v)], fr.cel⟩ h) (fun v h => fE G C n elt ⟨[(x, v)], fr.cel⟩ h) h1.length n j (h1 ++ [.list []]) = some h2) : fE G C n (.compIf elt x it t fv) fr h = some (.ref h1.length, h2) := by
  exact bnd_of hi (bnd_of hj ((iff_of hv).trans (map_of hl)))
theorem y_and {a b : E} (ha : fE G C n a fr h = some (.bool true, h1)) (hb : fE G C n b fr h1 = some (v, h2)) : fE G C n (.bop .And a (.cons b .nil)) fr h = some (v, h2) := by
  rw [f_bop1, ha, Option.bind_some]
  exact hb
theorem eq_list {i j : Nat} {vs : List V} (hi : h[i]? = some (.list vs)) (hj : h[j]? = some (.list vs)) (ha : allAtoms vs = true) : cmpV .Eq (.ref i) (.ref j) h = some true :=
  (eqL_at (listAt_of hi) (listAt_of hj) ha ha).trans (by rw [eqAtoms_refl ha])
end
noncomputable def isOne : List (List Nat) → List Nat → Bool
  | [w], g => natsEq w g
  | _, _ => false
theorem isOne_eq {ws : List (List Nat)} {g : List Nat} (h : isOne ws g = true) : ws = [g] := by
  unfold isOne at h
  split at h
  · rw [natsEq_eq, decide_eq_true_eq] at h; rw [h]
  · cases h
noncomputable def lastOK (words : List (List Nat)) (greedy lazy : List Nat) : Bool := match words.map colOf with
  | c :: cs => isOne (selW (cs.foldl min c) words (c :: cs)) greedy && isOne (selW (cs.foldl max c) words (c :: cs)) lazy
  | [] => false
noncomputable def smallUL (U L : Int) : Bool := decide (0 ≤ U) && decide (U ≤ 40) && decide (0 ≤ L) && decide (L ≤ 40) && decide (1 ≤ U + L)
noncomputable def caseOK (words : List (List Nat)) (greedy lazy : List Nat) (U L : Int) : Bool := words.all (wordOK greedy lazy U L) && Nat.ble words.length 100 && lastOK words greedy lazy && allAtoms [.str greedy] && allAtoms [.str lazy] && smallUL U L
theorem lawB_ok {words : List (List Nat)} {greedy lazy : List Nat} {U L z2 : Int} {fr : Fr} {H : MH} {i3 i4 c : Nat} {u : Option V} (ok : caseOK words greedy lazy U L = true) (hc3 : lk fr.cel 110 = some i3) (hc4 : lk fr.cel 111 = some i4) (n34 : i3 ≠ i4)
    (h3 : H[i3]? = some (.cell (some (.ref c)))) (h4 : H[i4]? = some (.cell u)) (hcw : H[c]? = some (.list (words.map .str)))
    (e51 : lk fr.loc 51 = some (.int U)) (e4 : lk fr.loc 4 = some (.int L)) (e113 : lk fr.loc 113 = some (.str greedy)) (e115 : lk fr.loc 115 = some (.str lazy)) (e127 : lk fr.loc 127 = some (.int z2)) :
    ∃ (fr2 : Fr) (H2 : MH), fSs GG (CI 30) 200 lawB fr H = some (.ret (.bool true), fr2, H2) := by
  unfold caseOK smallUL at ok
  simp only [Bool.and_eq_true, decide_eq_true_eq] at ok
  obtain ⟨⟨⟨⟨⟨o1, o2⟩, o3⟩, o4⟩, o5⟩, ⟨⟨⟨⟨u1, u2⟩, l1⟩, l2⟩, ul⟩⟩ := ok
  have hw : ∀ w ∈ words, wordOK greedy lazy U L w = true := fun w m => List.all_eq_true.mp o1 w m
  have hlw := Nat.le_of_ble_eq_true o2
  -- the width
  have hm := Int.fmod_nonneg_of_pos z2 (show (0 : Int) < 5000 by decide)
  have hm2 := Int.fmod_lt_of_pos z2 (show (0 : Int) < 5000 by decide)
  obtain ⟨n, hn⟩ : ∃ n : Nat, 6 + z2.fmod 5000 = n := ⟨(6 + z2.fmod 5000).toNat, by (first | lia | omega)⟩
  have hn6 : 6 ≤ n := by (first | lia | omega)
  have hn5 : n ≤ 5005 := by (first | lia | omega)
  have pn := p2pos n
  have hmod : ∀ h : MH, binV .Mod (.int z2) (.int 5000) h = some (.int (z2.fmod 5000), h) := fun h => rfl
  have hb2 : (Builtin.Int.intBits 2 : Int) * (n : Int) ≤ 134217728 := by
    rw [show Builtin.Int.intBits 2 = 2 by rfl]; (first | lia | omega)
  have hpow : ∀ h : MH, binV .Pow (.int 2) (.int n) h = some (.int (2 ^ n), h) := fun h => by
    rw [b_pow, if_pos ⟨by (first | lia | omega), hb2⟩]; rfl
  have hmul : mulOk (2 ^ n) (2 ^ n) = true := mulOk_nn (k := n + 1) (l := n + 1) (Int.le_of_lt pn) (by rw [Int.pow_succ]; (first | lia | omega)) (Int.le_of_lt pn) (by rw [Int.pow_succ]; (first | lia | omega)) (by (first | lia | omega))
  -- the columns' list
  obtain ⟨q, hq⟩ : ∃ q, q = H.length := ⟨_, rfl⟩
  have k3 := at_lt h3
  have k4 := at_lt h4
  have kc := at_lt hcw
  have nc4 : i4 ≠ c := fun z => by subst z; rw [h4] at hcw; cases hcw
  have g4 := set_at (x := .cell (some (.ref q))) (app_at (L := [AO.list []]) h4)
  have g3 := set_ne (x := .cell (some (.ref q))) (Ne.symm n34) (app_at (L := [AO.list []]) h3)
  have gc := set_ne (x := .cell (some (.ref q))) nc4 (app_at (L := [AO.list []]) hcw)
  have gq : ((H ++ [AO.list []]).set i4 (.cell (some (.ref q))))[q]? = some (.list (([] : List Int).map .int)) := by
    refine set_ne (by (first | lia | omega)) ?_
    rw [hq]; exact app_new
  obtain ⟨fr1, H1, s1, s2, s3, s4, s5⟩ := law_loop hn6 hn5 ⟨u1, u2⟩ ⟨l1, l2⟩ ul hw hlw (show c ≠ q by (first | lia | omega)) (show i4 ≠ q by (first | lia | omega)) words.length 0 200 ⟨put (put (put fr.loc 121 (.int n)) 116 (.int (2 ^ n))) 118 (.int (2 ^ n * 2 ^ n - 2 ^ n - 1)), fr.cel⟩ _ [] (by (first | lia | omega)) (by (first | lia | omega)) rfl
    (lk_ne rfl (lk_ne rfl (lk_ne rfl e51))) (lk_ne rfl (lk_ne rfl (lk_ne rfl e4))) (lk_ne rfl (lk_ne rfl (lk_ne rfl e113))) (lk_ne rfl (lk_ne rfl (lk_ne rfl e115))) (lk_ne rfl lk_eq) lk_eq (lk_ne rfl (lk_ne rfl lk_eq)) hc4 g4 gq gc
  rw [List.nil_append, List.drop_zero] at s4
  have f3 := s5 i3 _ (by (first | lia | omega)) g3
  have f4 := s5 i4 _ (by (first | lia | omega)) g4
  have fc := s5 c _ (by (first | lia | omega)) gc
  have hc3' : lk fr1.cel 110 = some i3 := by rw [s2]; exact hc3
  have hc4' : lk fr1.cel 111 = some i4 := by rw [s2]; exact hc4
  have f113 := s3 113 _ rfl (lk_ne rfl (lk_ne rfl (lk_ne rfl e113)))
  have f115 := s3 115 _ rfl (lk_ne rfl (lk_ne rfl (lk_ne rfl e115)))
  -- the nearest and the farthest
  unfold lastOK at o3
  have hlc : (words.map colOf).length = words.length := List.length_map ..
  cases hcols : words.map colOf with
  | nil => rw [hcols] at o3; cases o3
  | cons c0 cs =>
  rw [hcols] at o3 s4 hlc
  simp only [Bool.and_eq_true] at o3
  have w1 := isOne_eq o3.1
  have w2 := isOne_eq o3.2
  have hH1 := at_lt s4
  have hc1 := at_lt fc
  have h31 := at_lt f3
  have h41 := at_lt f4
  obtain ⟨H2, a1, a2, a3⟩ := sel_loop (C := CI 30) (N := words.length) (words := words) (cols := c0 :: cs) (cel := fr1.cel) (p := .min) (mn := cs.foldl min c0) (acc := H1.length) rfl hlc (by (first | lia | omega)) hc3' hc4' (fun h e => min_at e) (by (first | lia | omega)) (by (first | lia | omega)) (show H1.length ≠ c by (first | lia | omega)) (show H1.length ≠ q by (first | lia | omega)) words.length 0 200 (H1 ++ [AO.list []]) [] (by (first | lia | omega)) (by (first | lia | omega)) (by simp; (first | lia | omega))
    (app_at f3) (app_at fc) (app_at f4) (app_at s4) app_new
  rw [List.nil_append, List.drop_zero, List.drop_zero, w1] at a2
  have p3 := a3 i3 _ (by (first | lia | omega)) (app_at f3)
  have p4 := a3 i4 _ (by (first | lia | omega)) (app_at f4)
  have pc := a3 c _ (by (first | lia | omega)) (app_at fc)
  have pq := a3 q _ (by (first | lia | omega)) (app_at s4)
  have hH2 := at_lt a2
  have b3 := at_lt p3
  have b4 := at_lt p4
  have bc := at_lt pc
  have bq := at_lt pq
  obtain ⟨H3, d1, d2, d3⟩ := sel_loop (C := CI 30) (N := words.length) (words := words) (cols := c0 :: cs) (cel := fr1.cel) (p := .max) (mn := cs.foldl max c0) (acc := H2.length) rfl hlc (by (first | lia | omega)) hc3' hc4' (fun h e => max_at e) (by (first | lia | omega)) (by (first | lia | omega)) (show H2.length ≠ c by (first | lia | omega)) (show H2.length ≠ q by (first | lia | omega)) words.length 0 200 (H2 ++ [AO.list []]) [] (by (first | lia | omega)) (by (first | lia | omega)) (by simp; (first | lia | omega))
    (app_at p3) (app_at pc) (app_at p4) (app_at pq) app_new
  rw [List.nil_append, List.drop_zero, List.drop_zero, w2] at d2
  have z1 := d3 H1.length _ (by (first | lia | omega)) (app_at a2)
  have all2 : ∀ f : Fr, lk f.cel 110 = some i3 → lk f.cel 111 = some i4 → [110, 111].all (fun y => (lk f.cel y).isSome) = true := fun f x1 x2 => by
    show ((lk f.cel 110).isSome && ((lk f.cel 111).isSome && true)) = true
    rw [x1, x2]; rfl
  have ln : ∀ {h : MH}, h[c]? = some (.list (words.map .str)) → primV .len [.ref c] h = some (.int (words.length : Nat), h) := fun e => by
    rw [len_at e (by rw [List.length_map]; (first | lia | omega)), List.length_map]
  refine ⟨_, _, x_cons (x_asg (y_addE rfl (y_bin (y_loc e127) rfl (hmod _)) hn)) <| x_cons (x_asg (y_bin rfl (y_loc lk_eq) (hpow _))) <|
    x_cons (x_asg (y_subE (y_subE (y_mulE (y_loc lk_eq) (y_loc lk_eq) hmul rfl) (y_loc lk_eq) rfl) rfl rfl)) <| x_cons (x_asgc (y_lst y_nil (Nat.le_of_ble_eq_true rfl)) hc4 (app_at h4)) <|
    x_cons (x_for (y_cel hc3 (hq ▸ g3)) (iter_list (hq ▸ gc)) (hq ▸ s1)) <|
    x_cons (x_asg (y_compIf (y_prim (y_cons (y_prim (y_cons (y_cel hc3' f3) y_nil) (ln fc)) y_nil) rfl) (iter_rng (by (first | lia | omega))) (all2 _ hc3' hc4') a1)) <|
    x_cons (x_asg (y_compIf (y_prim (y_cons (y_prim (y_cons (y_cel hc3' p3) y_nil) (ln pc)) y_nil) rfl) (iter_rng (by (first | lia | omega))) (all2 _ hc3' hc4') d1)) <|
    x_ret (y_and (y_cmp (y_loc (lk_ne rfl lk_eq)) (y_lst (y_cons (y_loc (lk_ne rfl (lk_ne rfl f113))) y_nil) (Nat.le_of_ble_eq_true rfl)) (eq_list (app_at z1) app_new o4))
      (y_cmp (y_loc lk_eq) (y_lst (y_cons (y_loc (lk_ne rfl (lk_ne rfl f115))) y_nil) (Nat.le_of_ble_eq_true rfl)) (eq_list (app_at (app_at d2)) app_new o5)))⟩
end Rz
end P17
section P18
open PySem PySem.W PySem.Calls PyProof.Rows
namespace Rz
set_option linter.unusedVariables false
set_option linter.unusedSimpArgs false
set_option maxRecDepth 100000
/-! the changes of a word, by a plain function -/
noncomputable def chAt (w : List Nat) (k : Nat) : Option (List Nat) := match natsEq (sliceS w (some (k : Int)) (some ((k : Int) + 3))) [32, 9, 9] with
  | true => some (sliceS w none (some (k : Int)) ++ [9, 32, 32] ++ sliceS w (some ((k : Int) + 3)) none)
  | false => match natsEq (sliceS w (some (k : Int)) (some ((k : Int) + 3))) [9, 32, 32] with
    | true => some (sliceS w none (some (k : Int)) ++ [32, 9, 9] ++ sliceS w (some ((k : Int) + 3)) none)
    | false => none
noncomputable def chFrom (w : List Nat) : Nat → Nat → List (List Nat)
  | 0, _ => []
  | n + 1, k => (chAt w k).toList ++ chFrom w n (k + 1)
noncomputable def changedF (w : List Nat) : List (List Nat) := chFrom w 6 0
theorem slice_le {l : List Nat} (a b : Option Int) : (sliceS l a b).length ≤ l.length := by
  unfold sliceS
  split
  · exact Nat.le_refl _
  · exact Nat.le_trans (List.length_filterMap_le _ _) (indices_len_le a b l.length)
section
variable {G : Gl} {C : Call} {n : Nat} {fr : Fr} {h h1 h2 h3 : MH} {x y : Nat}
theorem slc_both {s : List Nat} {a b : Int} (hs : s.length ≤ 16777216) : slcV (.str s) (.int a) (.int b) h = some (.str (sliceS s (some a) (some b)), h) := by
  show (if s.length ≤ 16777216 then some (V.str (sliceS s (some a) (some b)), h) else none) = _
  rw [if_pos hs]
theorem slc_to {s : List Nat} {b : Int} (hs : s.length ≤ 16777216) : slcV (.str s) .none (.int b) h = some (.str (sliceS s none (some b)), h) := by
  show (if s.length ≤ 16777216 then some (V.str (sliceS s none (some b)), h) else none) = _
  rw [if_pos hs]
theorem slc_all {s : List Nat} (hs : s.length ≤ 16777216) : slcV (.str s) .none .none h = some (.str (sliceS s none none), h) := by
  show (if s.length ≤ 16777216 then some (V.str (sliceS s none none), h) else none) = _
  rw [if_pos hs]
theorem add_str {a b : List Nat} (hs : a.length + b.length ≤ 16777216) : binV .Add (.str a) (.str b) h = some (.str (a ++ b), h) := if_pos hs
theorem t_str {a b : E} {s u : List Nat} {q : Bool} (ha : fE G C n a fr h = some (.str s, h1)) (hb : fE G C n b fr h1 = some (.str u, h2)) (hq : natsEq s u = q) : fT G C n (.cmp .Eq a b) fr h = some (q, h2) := y_tcmp ha hb (congrArg some hq)
end
noncomputable def chBody : Ss := forBody (nthS 1 (bodyS d_law_changed))
theorem ch_step {C : Call} {w : List Nat} {k : Nat} {fr : Fr} {as : List (List Nat)} (hw : w.length ≤ 1000) (ha : as.length ≤ 1000) (f1 : lk fr.loc 100 = some (.str w)) (f2 : lk fr.loc 101 = some (.ref 0)) (f3 : lk fr.loc 102 = some (.int (k : Nat))) :
    fSs GG C 200 chBody fr [.list (as.map .str)] = some (.nxt, fr, [.list ((as ++ (chAt w k).toList).map .str)]) := by
  have sl := fun (a b : Option Int) => slice_le (l := w) a b
  have mid : ∀ h, fE GG C 200 (.slc (.loc 100) (.loc 102) (.bin .Add (.loc 102) (.lit (.int 3)))) fr h = some (.str (sliceS w (some (k : Int)) (some ((k : Int) + 3))), h) := fun h =>
    y_slc (y_loc f1) (y_loc f3) (y_bin (y_loc f3) rfl rfl) (slc_both (by (first | lia | omega)))
  have put3 : ∀ (x : List Nat) h, x.length ≤ 3 → fE GG C 200 (.bin .Add (.bin .Add (.slc (.loc 100) (.lit .none) (.loc 102)) (.lit (.str x))) (.slc (.loc 100) (.bin .Add (.loc 102) (.lit (.int 3))) (.lit .none))) fr h = some (.str (sliceS w none (some (k : Int)) ++ x ++ sliceS w (some ((k : Int) + 3)) none), h) := fun x h hx =>
    y_bin (y_bin (y_slc (y_loc f1) rfl (y_loc f3) (slc_to (by (first | lia | omega)))) rfl (add_str (by have := sl none (some (k : Int)); (first | lia | omega)))) (y_slc (y_loc f1) (y_bin (y_loc f3) rfl rfl) rfl (slc_from (by (first | lia | omega)))) (add_str (by
      have := sl none (some (k : Int)); have := sl (some ((k : Int) + 3)) none; rw [List.length_append]; (first | lia | omega)))
  have app : ∀ o : List Nat, biM 1 (.ref 0) [.str o] [.list (as.map .str)] = some (.none, [.list ((as ++ [o]).map .str)]) := fun o => by
    rw [m_append (vs := as.map .str) rfl (by rw [List.length_map]; (first | lia | omega)), List.map_append]; rfl
  unfold chAt
  cases hq1 : natsEq (sliceS w (some (k : Int)) (some ((k : Int) + 3))) [32, 9, 9] with
  | true => exact x_cons (x_if (t_str (mid _) rfl hq1) (x_cons (x_ex (y_bi (y_loc f2) rfl (y_cons (put3 _ _ (by decide)) y_nil) (app _))) rfl)) rfl
  | false =>
    dsimp only
    cases hq2 : natsEq (sliceS w (some (k : Int)) (some ((k : Int) + 3))) [9, 32, 32] with
    | true => exact x_cons (x_else (t_str (mid _) rfl hq1) (x_cons (x_if (t_str (mid _) rfl hq2) (x_cons (x_ex (y_bi (y_loc f2) rfl (y_cons (put3 _ _ (by decide)) y_nil) (app _))) rfl)) rfl)) rfl
    | false =>
      dsimp only [Option.toList]
      rw [List.append_nil]
      exact x_cons (x_else (t_str (mid _) rfl hq1) (x_cons (x_skip (t_str (mid _) rfl hq2)) rfl)) rfl
theorem ch_loop {C : Call} {w : List Nat} (hw : w.length ≤ 1000) : ∀ (n k m : Nat) (fr : Fr) (as : List (List Nat)), n < m → as.length + n ≤ 1000 → lk fr.loc 100 = some (.str w) → lk fr.loc 101 = some (.ref 0) →
    ∃ fr', forL (nextI C) (fun v fr h => (stT (.loc 102) v fr h).bind fun q => fSs GG C 200 chBody q.1 q.2) m (.rng (k : Nat) n 1) fr [.list (as.map .str)] = some (.nxt, fr', [.list ((as ++ chFrom w n k).map .str)]) ∧ lk fr'.loc 101 = some (.ref 0) := by
  intro n
  induction n with
  | zero =>
    intro k m fr as hm ha e1 e2
    obtain ⟨m, rfl⟩ := fuel hm
    exact ⟨fr, (for_stop rfl).trans (by rw [chFrom, List.append_nil]), e2⟩
  | succ n ih =>
    intro k m fr as hm ha e1 e2
    obtain ⟨m, rfl⟩ := fuel hm
    have hl : (chAt w k).toList.length ≤ 1 := by cases chAt w k <;> simp
    obtain ⟨fr', g, g2⟩ := ih (k + 1) m ⟨put fr.loc 102 (.int (k : Nat)), fr.cel⟩ (as ++ (chAt w k).toList) (by (first | lia | omega)) (by rw [List.length_append]; (first | lia | omega)) (lk_ne rfl e1) (lk_ne rfl e2)
    rw [chFrom, ← List.append_assoc]
    exact ⟨fr', (for_go rfl (x_bind (ch_step (k := k) hw (by (first | lia | omega)) (lk_ne rfl e1) (lk_ne rfl e2) lk_eq))).trans g, g2⟩
theorem changed {d : Nat} {w : List Nat} (hw : w.length ≤ 1000) (hat : allAtoms ((changedF w).map .str) = true) (H : MH) : CI (d + 1) (.con 26) [.str w] H = some (.ref H.length, H ++ [.list ((changedF w).map .str)]) := by
  obtain ⟨fr', g, g2⟩ := ch_loop (C := CI d) hw 6 0 200 ⟨[(100, .str w), (101, .ref 0)], []⟩ [] (by decide) (by decide) rfl rfl
  exact pure_ref (vs := [.str w]) (D := d_law_changed) (by rfl) (by rfl) (by rfl) (fDef_ret rfl rfl (x_cons (x_asg (y_lst y_nil (Nat.le_of_ble_eq_true rfl))) (x_cons (x_for (vi := .rng 0 ((6 : Nat) : Int) 1) (y_prim (y_cons rfl y_nil) rfl) (iter_rng (by decide)) g) (x_ret (y_loc g2))))) rfl hat H
end Rz
end P18
section P19
open PySem PySem.W PySem.Calls PyProof.Rows
namespace Rz
set_option linter.unusedVariables false
set_option linter.unusedSimpArgs false
set_option maxRecDepth 100000
/-! the distance, by plain functions -/
noncomputable def okS : List Nat → Bool
  | [] => false
  | c :: r => Nat.ble (c :: r).length 1000
noncomputable def sameAt (x y : List Nat) (i : Int) : Option Bool := match seqIndex? i x.length with
  | some j => match seqIndex? i y.length with
    | some k => match x[j]? with
      | some c => match y[k]? with
        | some c' => some (natsEq [c] [c'])
        | none => none
      | none => none
    | none => none
  | none => none
noncomputable def tst (x y x1 y1 : List Nat) (i : Int) : Option Bool := match okS x1 && okS y1 && Nat.ble i.natAbs 1000 with
  | true => sameAt x y i
  | false => none
noncomputable def onT (q : Option Bool) (p : Nat) (r : Option Nat) : Option Nat := match q with
  | some true => r
  | some false => some p
  | none => none
noncomputable def preF (w o : List Nat) (m : Nat) : Nat → Option Nat := Nat.rec (fun _ => none) (fun _ ih p => onT (tst w o (sliceS w (some (p : Int)) none) (sliceS o (some (p : Int)) none) p) p (ih (p + 1))) m
noncomputable def parg (j : Nat) : Option Int := match j with
  | 0 => none
  | j + 1 => some (-((j + 1 : Nat) : Int))
noncomputable def pargV (j : Nat) : V := match j with
  | 0 => .none
  | j + 1 => .int (-((j + 1 : Nat) : Int))
noncomputable def postF (a b : List Nat) (m : Nat) : Nat → Option Nat := Nat.rec (fun _ => none) (fun _ ih j => onT (tst a b (sliceS a none (parg j)) (sliceS b none (parg j)) (-(j : Int) - 1)) j (ih (j + 1))) m
section
variable {G : Gl} {C : Call} {n : Nat} {fr : Fr} {h : MH}
theorem okS_true {s : List Nat} (e : okS s = true) : trueV (.str s) h = some true := by
  cases s with
  | nil => cases e
  | cons c r =>
    have := Nat.le_of_ble_eq_true (show Nat.ble (c :: r).length 1000 = true from e)
    exact if_pos (by (first | lia | omega))
theorem t_and3 {x y z : T} {q : Bool} (hx : fT G C n x fr h = some (true, h)) (hy : fT G C n y fr h = some (true, h)) (hz : fT G C n z fr h = some (q, h)) : fT G C n (.bop .And (.cons x (.cons y (.cons z .nil)))) fr h = some (q, h) := by
  rw [f_tbop, f_aand, hx, Option.bind_some]
  show fA G C n (.cons y (.cons z .nil)) .And fr h = _
  rw [f_aand, hy, Option.bind_some]
  show fA G C n (.cons z .nil) .And fr h = _
  rw [f_aand, hz]; cases q <;> rfl
theorem idx_str {s : List Nat} {i : Int} {j c : Nat} (hi : i.natAbs ≤ 1000) (hj : seqIndex? i s.length = some j) (hc : s[j]? = some c) : idxV (.str s) (.int i) h = some (.str [c]) :=
  (if_pos (by (first | lia | omega))).trans ((onL_of hj).trans (onL_of hc))
theorem tst_ok {x y x1 y1 : List Nat} {i : Int} {q : Bool} {ea eb ex ey ei ej : E} (e : tst x y x1 y1 i = some q) (ha : fE G C n ea fr h = some (.str x1, h)) (hb : fE G C n eb fr h = some (.str y1, h)) (hx : fE G C n ex fr h = some (.str x, h)) (hy : fE G C n ey fr h = some (.str y, h))
    (hi : fE G C n ei fr h = some (.int i, h)) (hj : fE G C n ej fr h = some (.int i, h)) : fT G C n (.bop .And (.cons (.val ea) (.cons (.val eb) (.cons (.cmp .Eq (.idx ex ei) (.idx ey ej)) .nil)))) fr h = some (q, h) := by
  unfold tst at e
  split at e
  · rename_i hk
    simp only [Bool.and_eq_true] at hk
    have hn := Nat.le_of_ble_eq_true hk.2
    unfold sameAt at e
    split at e
    · split at e
      · split at e
        · split at e
          · rename_i _ _ hj1 _ _ hj2 _ _ hc _ _ hc'
            exact t_and3 (y_tval ha (okS_true hk.1.1)) (y_tval hb (okS_true hk.1.2)) (y_tcmp (y_idx hx hi (idx_str hn hj1 hc)) (y_idx hy hj (idx_str hn hj2 hc')) e)
          · cases e
        · cases e
      · cases e
    · cases e
  · cases e
end
theorem pre_loop {C : Call} {w o : List Nat} (hw : w.length ≤ 1000) (ho : o.length ≤ 1000) {p : Nat} (h : MH) : ∀ (m k : Nat), preF w o m k = some p → whlL (fT GG C 200 (.bop .And (.cons (.val (.slc (.loc 31) (.loc 96) (.lit .none))) (.cons (.val (.slc (.loc 32) (.loc 96) (.lit .none))) (.cons (.cmp .Eq (.idx (.loc 31) (.loc 96)) (.idx (.loc 32) (.loc 96))) (.nil))))))
    (fSs GG C 200 (.cons (.aug (.loc 96) .Add (.lit (.int 1))) (.nil))) m ⟨[(31, .str w), (32, .str o), (86, .int 6), (96, .int (k : Nat))], []⟩ h = some (.nxt, ⟨[(31, .str w), (32, .str o), (86, .int 6), (96, .int (p : Nat))], []⟩, h) := by
  intro m
  induction m with
  | zero => intro k e; exact absurd (show none = some p from e) nofun
  | succ m ih =>
    intro k e
    change onT (tst w o (sliceS w (some (k : Int)) none) (sliceS o (some (k : Int)) none) k) k (preF w o m (k + 1)) = some p at e
    unfold onT at e
    have ev : ∀ q, tst w o (sliceS w (some (k : Int)) none) (sliceS o (some (k : Int)) none) k = some q → fT GG C 200 (.bop .And (.cons (.val (.slc (.loc 31) (.loc 96) (.lit .none))) (.cons (.val (.slc (.loc 32) (.loc 96) (.lit .none))) (.cons (.cmp .Eq (.idx (.loc 31) (.loc 96)) (.idx (.loc 32) (.loc 96))) (.nil))))) ⟨[(31, .str w), (32, .str o), (86, .int 6), (96, .int (k : Nat))], []⟩ h = some (q, h) := fun q hq =>
      tst_ok hq (y_slc (y_loc rfl) (y_loc rfl) rfl (slc_from (by (first | lia | omega)))) (y_slc (y_loc rfl) (y_loc rfl) rfl (slc_from (by (first | lia | omega)))) (y_loc rfl) (y_loc rfl) (y_loc rfl) (y_loc rfl)
    split at e
    · rename_i hq
      exact (whl_go (ev _ hq) (x_cons (x_aug rfl rfl rfl) rfl)).trans (ih (k + 1) e)
    · rename_i hq
      cases e
      exact whl_stop (ev _ hq)
    · cases e
theorem parg_ev {C : Call} {fr : Fr} {j : Nat} {h : MH} (e : lk fr.loc 95 = some (.int (-(j : Int)))) : fE GG C 200 (.bop .Or (.loc 95) (.cons (.lit .none) (.nil))) fr h = some (pargV j, h) := by
  rw [f_bop1, y_loc e, Option.bind_some]
  cases j with
  | zero => rfl
  | succ j => rfl
theorem slc_parg {s : List Nat} {j : Nat} {h : MH} (hs : s.length ≤ 1000) : slcV (.str s) .none (pargV j) h = some (.str (sliceS s none (parg j)), h) := by
  cases j with
  | zero => exact slc_all (by (first | lia | omega))
  | succ j => exact slc_to (by (first | lia | omega))
theorem post_loop {C : Call} {a b : List Nat} (hw : a.length ≤ 1000) (ho : b.length ≤ 1000) {p j' : Nat} (h : MH) : ∀ (m j : Nat), postF a b m j = some j' → whlL (fT GG C 200 (.bop .And (.cons (.val (.slc (.loc 31) (.lit .none) (.bop .Or (.loc 95) (.cons (.lit .none) (.nil))))) (.cons (.val (.slc (.loc 32) (.lit .none) (.bop .Or (.loc 95) (.cons (.lit .none) (.nil))))) (.cons (.cmp .Eq (.idx (.loc 31) (.bin .Sub (.loc 95) (.lit (.int 1)))) (.idx (.loc 32) (.bin .Sub (.loc 95) (.lit (.int 1))))) (.nil))))))
    (fSs GG C 200 (.cons (.aug (.loc 95) .Sub (.lit (.int 1))) (.nil))) m ⟨[(31, .str a), (32, .str b), (86, .int 6), (96, .int (p : Nat)), (95, .int (-(j : Int)))], []⟩ h = some (.nxt, ⟨[(31, .str a), (32, .str b), (86, .int 6), (96, .int (p : Nat)), (95, .int (-(j' : Int)))], []⟩, h) := by
  intro m
  induction m with
  | zero => intro j e; exact absurd (show none = some j' from e) nofun
  | succ m ih =>
    intro j e
    change onT (tst a b (sliceS a none (parg j)) (sliceS b none (parg j)) (-(j : Int) - 1)) j (postF a b m (j + 1)) = some j' at e
    unfold onT at e
    have ev : ∀ q, tst a b (sliceS a none (parg j)) (sliceS b none (parg j)) (-(j : Int) - 1) = some q → fT GG C 200 (.bop .And (.cons (.val (.slc (.loc 31) (.lit .none) (.bop .Or (.loc 95) (.cons (.lit .none) (.nil))))) (.cons (.val (.slc (.loc 32) (.lit .none) (.bop .Or (.loc 95) (.cons (.lit .none) (.nil))))) (.cons (.cmp .Eq (.idx (.loc 31) (.bin .Sub (.loc 95) (.lit (.int 1)))) (.idx (.loc 32) (.bin .Sub (.loc 95) (.lit (.int 1))))) (.nil))))) ⟨[(31, .str a), (32, .str b), (86, .int 6), (96, .int (p : Nat)), (95, .int (-(j : Int)))], []⟩ h = some (q, h) := fun q hq =>
      tst_ok hq (y_slc (y_loc rfl) rfl (parg_ev rfl) (slc_parg hw)) (y_slc (y_loc rfl) rfl (parg_ev rfl) (slc_parg ho)) (y_loc rfl) (y_loc rfl) (y_bin (y_loc rfl) rfl rfl) (y_bin (y_loc rfl) rfl rfl)
    split at e
    · rename_i hq
      exact (whl_go (ev _ hq) (x_cons (x_aug (u := .int (-((j + 1 : Nat) : Int))) rfl rfl (by rw [g_sub]; congr 3; (first | lia | omega))) rfl)).trans (ih (j + 1) e)
    · rename_i hq
      cases e
      exact whl_stop (ev _ hq)
    · cases e
/-- the middle: a blank and two tabs against a tab and two blanks -/
noncomputable def retOf : Out → Option V
  | some (.ret v, _, _) => some v
  | _ => none
theorem retOf_some {r : Out} {v : V} (e : retOf r = some v) : ∃ fr h, r = some (.ret v, fr, h) := by
  unfold retOf at e
  split at e
  · cases e; exact ⟨_, _, rfl⟩
  · cases e
theorem core1 (p j : Int) : retOf (fSs GG (CI 29) 200 (dropS 9 (bodyS d_levenshtein_distance)) ⟨[(31, .str [32, 9, 9]), (32, .str [9, 32, 32]), (86, .int 6), (96, .int p), (95, .int j)], []⟩ []) = some (.int 6) := by kernel_rfl
theorem core2 (p j : Int) : retOf (fSs GG (CI 29) 200 (dropS 9 (bodyS d_levenshtein_distance)) ⟨[(31, .str [9, 32, 32]), (32, .str [32, 9, 9]), (86, .int 6), (96, .int p), (95, .int j)], []⟩ []) = some (.int 6) := by kernel_rfl
noncomputable def coreOK (a b : List Nat) : Bool := (natsEq a [32, 9, 9] && natsEq b [9, 32, 32]) || (natsEq a [9, 32, 32] && natsEq b [32, 9, 9])
noncomputable def levOK (w o : List Nat) : Bool := !natsEq w o && Nat.ble w.length 1000 && Nat.ble o.length 1000 && (match preF w o 200 0 with
  | some p => match postF (sliceS w (some (p : Int)) none) (sliceS o (some (p : Int)) none) 200 0 with
    | some j => coreOK (sliceS (sliceS w (some (p : Int)) none) none (parg j)) (sliceS (sliceS o (some (p : Int)) none) none (parg j))
    | none => false
  | none => false)
theorem lev {w o : List Nat} (hk : levOK w o = true) (H : MH) : CI 30 (.con 24) [.str w, .str o, .int 6] H = some (.int 6, H) := by
  unfold levOK at hk
  simp only [Bool.and_eq_true, Bool.not_eq_true'] at hk
  obtain ⟨⟨⟨h1, h2⟩, h3⟩, h4⟩ := hk
  have h2 := Nat.le_of_ble_eq_true h2
  have h3 := Nat.le_of_ble_eq_true h3
  split at h4
  · rename_i p hp
    have l1 := slice_le (l := w) (some (p : Int)) none
    have l2 := slice_le (l := o) (some (p : Int)) none
    split at h4
    · rename_i j hj
      have a1 := pre_loop (C := CI 29) h2 h3 [] 200 0 hp
      have a2 := post_loop (C := CI 29) (p := p) (by (first | lia | omega)) (by (first | lia | omega)) [] 200 0 hj
      have fin : ∃ fr h, fSs GG (CI 29) 200 (dropS 9 (bodyS d_levenshtein_distance)) ⟨[(31, .str (sliceS (sliceS w (some (p : Int)) none) none (parg j))), (32, .str (sliceS (sliceS o (some (p : Int)) none) none (parg j))), (86, .int 6), (96, .int (p : Nat)), (95, .int (-(j : Int)))], []⟩ [] = some (.ret (.int 6), fr, h) := by
        unfold coreOK at h4
        simp only [Bool.or_eq_true, Bool.and_eq_true, natsEq_eq, decide_eq_true_eq] at h4
        rcases h4 with ⟨q1, q2⟩ | ⟨q1, q2⟩ <;> rw [q1, q2]
        · exact retOf_some (core1 _ _)
        · exact retOf_some (core2 _ _)
      obtain ⟨fr, h, fin⟩ := fin
      exact pure_call (d := 29) (vs := [.str w, .str o, .int 6]) (D := d_levenshtein_distance) (by rfl) (by rfl) (by rfl) (by rfl) (fDef_ret rfl rfl (x_cons (x_skip (t_str (y_loc rfl) (y_loc rfl) h1)) (x_cons (x_asg rfl) (x_cons (x_whl a1)
        (x_cons (x_asg (y_slc (y_loc rfl) (y_loc rfl) rfl (slc_from (by (first | lia | omega))))) (x_cons (x_asg (y_slc (y_loc rfl) (y_loc rfl) rfl (slc_from (by (first | lia | omega))))) (x_cons (x_asg rfl) (x_cons (x_whl a2)
          (x_cons (x_asg (y_slc (y_loc rfl) rfl (parg_ev rfl) (slc_parg (by (first | lia | omega))))) (x_cons (x_asg (y_slc (y_loc rfl) rfl (parg_ev rfl) (slc_parg (by (first | lia | omega))))) fin)))))))))) H
    · cases h4
  · cases h4
end Rz
end P19
section P20
open PySem PySem.W PySem.Calls PyProof.Rows
namespace Rz
set_option linter.unusedVariables false
set_option linter.unusedSimpArgs false
set_option maxRecDepth 100000
noncomputable def okW (s : List Nat) : Bool := Nat.ble s.length 1000 && s.all (Nat.ble · 127)
noncomputable def fit (a : List (List Nat)) : Bool := Nat.ble a.length 150 && a.all okW
theorem strOk_of {s : List Nat} (h : s.all (Nat.ble · 127) = true) : PyData.strOk ⟨s.toArray⟩ = true := by
  unfold PyData.strOk
  simp only [List.all_toArray, List.all_eq_true, decide_eq_true_eq]
  intro c hc
  have := Nat.le_of_ble_eq_true (List.all_eq_true.mp h c hc)
  (first | lia | omega)
theorem atoms_of : ∀ {a : List (List Nat)}, a.all (fun s => s.all (Nat.ble · 127)) = true → allAtoms (a.map .str) = true
  | [], _ => rfl
  | s :: r, h => by
    rw [List.all_cons, Bool.and_eq_true] at h
    show (PyData.strOk ⟨s.toArray⟩ && allAtoms (r.map .str)) = true
    rw [strOk_of h.1, atoms_of h.2]; rfl
theorem atoms_fit {a : List (List Nat)} (h : fit a = true) : allAtoms (a.map .str) = true := by
  unfold fit at h
  rw [Bool.and_eq_true] at h
  refine atoms_of (List.all_eq_true.mpr fun s m => ?_)
  have := List.all_eq_true.mp h.2 s m
  unfold okW at this
  rw [Bool.and_eq_true] at this
  exact this.2
theorem ints_of : ∀ {ws : List V} {ns : List Int}, intsOf ws = some ns → ws = ns.map .int
  | [], ns, h => by cases h; rfl
  | v :: r, ns, h => by
    obtain ⟨i, rfl, h⟩ := onI_some h
    obtain ⟨q, hq, h2⟩ := onL_some h
    cases h2
    rw [List.map_cons, ← ints_of hq]
/-- a pure function of a list (and atoms) that answers a new list -/
theorem pure_lists {d k l j : Nat} {D : MDef} {ws r us : List V} {h' H : MH} (hk : memN pureK k = true) (hD : DD.fn k = some D) (hl : listAt H l = some ws) (hw : allAtoms ws = true) (hv : r.all atomV = true)
    (e : runDef GG (CI d) 200 D [] (.ref 0 :: r) [.list ws] = some (.ref (j + 1), h')) (h0 : listAt h' 0 = some ws) (hj : listAt h' (j + 1) = some us) (hu : allAtoms us = true) : CI (d + 1) (.con k) (.ref l :: r) H = some (.ref H.length, H ++ [.list us]) :=
  (CI_list hk hD hl hw hv e (sameL_of hw h0)).trans (isoOut_ref hj hu rfl)
section
variable {G : Gl} {C : Call} {n : Nat} {fr : Fr} {h h1 h2 h3 : MH} {x : Nat}
theorem y_comp {elt it : E} {vi : V} {j : It} (hi : fE G C n it fr h = some (vi, h1)) (hj : iterOf vi h1 = some j)
    (hl : compL (nextI C) (fun _ h => some (true, h)) (fun v h => fE G C n elt ⟨[(x, v)], fr.cel⟩ h) h1.length n j (h1 ++ [.list []]) = some h2) : fE G C n (.comp elt x it []) fr h = some (.ref h1.length, h2) := by
  exact bnd_of hi (bnd_of hj (map_of hl))
theorem sum_at {i : Nat} {vs : List V} {ns : List Int} (e : listAt h i = some vs) (hn : intsOf vs = some ns) : primV .sum [.ref i] h = some (.int ns.sum, h) := by
  show onL (listAt h i) (fun vs => onL (intsOf vs) fun ns => some (V.int ns.sum, h)) = _
  rw [e]; show onL (intsOf vs) _ = _; rw [hn]; rfl
theorem t_or2 {x y : T} {p q : Bool} (hx : fT G C n x fr h = some (p, h)) (hy : fT G C n y fr h = some (q, h)) : fT G C n (.bop .Or (.cons x (.cons y .nil))) fr h = some (p || q, h) := by
  rw [f_tbop, f_aor, hx, Option.bind_some]
  cases p with
  | true => rfl
  | false =>
    show fA G C n (.cons y .nil) .Or fr h = _
    rw [f_aor, hy]; cases q <;> rfl
theorem slcL_from {i : Nat} {vs : List V} {k : Int} (e : listAt h i = some vs) (hs : vs.length ≤ 16777216) : slcV (.ref i) (.int k) .none h = some (.ref h.length, h ++ [.list (sliceL vs (some k) none)]) := (onL_of e).trans (if_pos hs)
end
/-- each text with one sign in front -/
theorem map_loop {C : Call} {c x i acc : Nat} {a : List (List Nat)} (hne : i ≠ acc) (ha : fit a = true) : ∀ (k j m : Nat) (H : MH) (as : List (List Nat)), j + k = a.length → k < m → as.length + k ≤ 10000 → H[i]? = some (.list (a.map .str)) → H[acc]? = some (.list (as.map .str)) →
    compL (nextI C) (fun _ h => some (true, h)) (fun v h => fE GG C 200 (.bin .Add (.lit (.str [c])) (.loc x)) ⟨[(x, v)], []⟩ h) acc m (.lst i j) H = some (H.set acc (.list ((as ++ (a.drop j).map (c :: ·)).map .str))) := by
  intro k
  induction k with
  | zero =>
    intro j m H as hj hm hb hi hc
    obtain ⟨m, rfl⟩ := fuel hm
    rw [List.drop_of_length_le (by (first | lia | omega)), List.map_nil, List.append_nil]
    have : H.set acc (.list (as.map .str)) = H := by
      obtain ⟨hl, e⟩ := List.getElem?_eq_some_iff.mp hc
      rw [← e]; exact List.set_getElem_self hl
    rw [this]
    exact comp_stop (lst_end hi (List.getElem?_eq_none (by rw [List.length_map]; (first | lia | omega))))
  | succ k ih =>
    intro j m H as hj hm hb hi hc
    obtain ⟨m, rfl⟩ := fuel hm
    have jw : j < a.length := by (first | lia | omega)
    have gw : (a.map V.str)[j]? = some (.str a[j]) := by rw [List.getElem?_map, List.getElem?_eq_getElem jw]; rfl
    unfold fit at ha
    rw [Bool.and_eq_true] at ha
    have hk := List.all_eq_true.mp ha.2 _ (List.getElem_mem jw)
    unfold okW at hk
    rw [Bool.and_eq_true] at hk
    have hk := Nat.le_of_ble_eq_true hk.1
    have hadd : [c].length + a[j].length ≤ 16777216 := by rw [List.length_singleton]; (first | lia | omega)
    have lx : lk [(x, V.str a[j])] x = some (.str a[j]) := lk_eq (l := [])
    have g := ih (j + 1) m (H.set acc (.list (as.map .str ++ [.str (c :: a[j])]))) (as ++ [c :: a[j]]) (by (first | lia | omega)) (by (first | lia | omega)) (by simp; (first | lia | omega)) (set_ne (Ne.symm hne) hi) (by rw [set_at hc, List.map_append]; rfl)
    rw [List.set_set] at g
    rw [List.drop_eq_getElem_cons jw, List.map_cons]
    rw [List.append_assoc] at g
    exact (comp_yes (lst_next hi gw) rfl (y_bin rfl (y_loc lx) (add_str hadd)) (push_at hc (by rw [List.length_map]; (first | lia | omega)))).trans g
noncomputable def both (a b : Option (List (List Nat))) : Option (List (List Nat)) := match a with
  | some a => match b with
    | some b => match fit a && fit b with
      | true => some (a.map (32 :: ·) ++ b.map (9 :: ·))
      | false => none
    | none => none
  | none => none
noncomputable def waysS (ih : List V → Int → Option (List (List Nat))) (ws : List V) (left : Int) : Option (List (List Nat)) := match intsOf ws, Nat.ble ws.length 1000 with
  | some ns, true => match decide (left < 0) || decide (ns.sum < left) with
    | true => some []
    | false => match ns with
      | [] => some [[]]
      | x :: _ => both (ih (sliceL ws (some 1) none) left) (ih (sliceL ws (some 1) none) (left - x))
  | _, _ => none
noncomputable def waysF (m : Nat) : List V → Int → Option (List (List Nat)) := Nat.rec (fun _ _ => none) (fun _ ih => waysS ih) m
theorem atoms_app {a b : List V} (ha : allAtoms a = true) (hb : allAtoms b = true) : allAtoms (a ++ b) = true := by
  induction a with
  | nil => exact hb
  | cons v r ih =>
    rw [List.cons_append, allAtoms_cons, Bool.and_eq_true]
    rw [allAtoms_cons, Bool.and_eq_true] at ha
    exact ⟨ha.1, ih ha.2⟩
theorem atoms_cons {c : Nat} (hc : Nat.ble c 127 = true) {a : List (List Nat)} (h : fit a = true) : allAtoms ((a.map (c :: ·)).map .str) = true := by
  unfold fit at h
  rw [Bool.and_eq_true] at h
  refine atoms_of (List.all_eq_true.mpr fun s m => ?_)
  obtain ⟨u, hu, rfl⟩ := List.mem_map.mp m
  have := List.all_eq_true.mp h.2 u hu
  unfold okW at this
  rw [Bool.and_eq_true] at this
  rw [List.all_cons, hc]
  exact this.2
theorem ways : ∀ (d : Nat) (ws : List V) (left : Int) (us : List (List Nat)) (H : MH) (l : Nat), waysF d ws left = some us → listAt H l = some ws → CI d (.con 27) [.ref l, .int left] H = some (.ref H.length, H ++ [.list (us.map .str)]) ∧ allAtoms (us.map .str) = true := by
  intro d
  induction d with
  | zero => intro ws left us H l e hl; exact absurd (show none = some us from e) nofun
  | succ d ih =>
    intro ws left us H l e hl
    change waysS (waysF d) ws left = some us at e
    unfold waysS at e
    split at e
    · rename_i ns hn hb
      have hb := Nat.le_of_ble_eq_true hb
      have hws := ints_of hn
      have hat : allAtoms ws = true := by rw [hws]; exact allAtoms_ints ns
      have tst : ∀ h : MH, listAt h 0 = some ws → fT GG (CI d) 200 (.bop .Or (.cons (.cmp .Lt (.loc 104) (.lit (.int 0))) (.cons (.cmp .Gt (.loc 104) (.prim .sum (.cons (.loc 103) (.nil)))) (.nil)))) ⟨[(103, .ref 0), (104, .int left)], []⟩ h = some (decide (left < 0) || decide (ns.sum < left), h) := fun h hh =>
        t_or2 (y_tcmp (y_loc rfl) rfl rfl) (y_tcmp (y_loc rfl) (y_prim (y_cons (y_loc rfl) y_nil) (sum_at hh hn)) rfl)
      have tst0 := tst [.list ws] rfl
      have eqv : ∀ q, eqAtoms ws [] = q → cmpV .Eq (.ref 0) (.ref 1) [.list ws, .list []] = some q := fun q hq => by
        exact (eqL_at (i := 0) (j := 1) (h := [.list ws, .list []]) (a := ws) (b := []) rfl rfl hat rfl).trans (by rw [hq])
      split at e
      · rename_i hq
        rw [hq] at tst0
        cases e
        exact ⟨pure_lists (j := 0) (h' := [.list ws, .list []]) (D := d_law_ways) (by rfl) (by rfl) hl hat rfl (fDef_ret rfl rfl (x_stop (x_if tst0 (x_ret (y_lst y_nil (Nat.le_of_ble_eq_true rfl)))))) rfl rfl rfl, rfl⟩
      · rename_i hq
        rw [hq] at tst0
        split at e
        · cases e
          have : ws = [] := by rw [hws]; rfl
          subst this
          exact ⟨pure_lists (j := 1) (h' := [.list [], .list [], .list [.str []]]) (D := d_law_ways) (by rfl) (by rfl) hl rfl rfl (fDef_ret rfl rfl (x_cons (x_skip tst0) (x_stop (x_if (y_tcmp (y_loc rfl) (y_lst y_nil (Nat.le_of_ble_eq_true rfl)) (eqv _ rfl)) (x_ret (y_lst (h1 := [.list [], .list []]) (vs := [.str []]) (y_cons rfl y_nil) (Nat.le_of_ble_eq_true rfl))))))) rfl rfl (atoms_of rfl), atoms_of (a := [[]]) rfl⟩
        · rename_i x xs
          unfold both at e
          split at e
          · rename_i a ea
            split at e
            · rename_i b eb
              split at e
              · rename_i hfit
                rw [Bool.and_eq_true] at hfit
                cases e
                have hx : ws[0]? = some (.int x) := by rw [hws]; rfl
                obtain ⟨c1, _⟩ := ih _ _ _ ([.list ws, .list [], .list (sliceL ws (some 1) none)]) 2 ea rfl
                obtain ⟨c2, _⟩ := ih _ _ _ ([.list ws, .list [], .list (sliceL ws (some 1) none), .list (a.map .str), .list ((a.map (32 :: ·)).map .str), .list (sliceL ws (some 1) none)]) 5 eb rfl
                have la := hfit.1
                have lb := hfit.2
                unfold fit at la lb
                rw [Bool.and_eq_true] at la lb
                have la := Nat.le_of_ble_eq_true la.1
                have lb := Nat.le_of_ble_eq_true lb.1
                have hne : eqAtoms ws [] = false := by rw [hws]; rfl
                have m1 := map_loop (C := CI d) (c := 32) (x := 100) (i := 3) (acc := 4) (by decide) hfit.1 a.length 0 200 ([.list ws, .list [], .list (sliceL ws (some 1) none), .list (a.map .str)] ++ [.list []]) [] (by (first | lia | omega)) (by (first | lia | omega)) (by simp; (first | lia | omega)) rfl rfl
                have m2 := map_loop (C := CI d) (c := 9) (x := 100) (i := 6) (acc := 7) (by decide) hfit.2 b.length 0 200 ([.list ws, .list [], .list (sliceL ws (some 1) none), .list (a.map .str), .list ((a.map (32 :: ·)).map .str), .list (sliceL ws (some 1) none), .list (b.map .str)] ++ [.list []]) [] (by (first | lia | omega)) (by (first | lia | omega)) (by simp; (first | lia | omega)) rfl rfl
                rw [List.nil_append, List.drop_zero] at m1 m2
                replace m1 := m1.trans (show _ = some [.list ws, .list [], .list (sliceL ws (some 1) none), .list (a.map .str), .list ((a.map (32 :: ·)).map .str)] from rfl)
                replace m2 := m2.trans (show _ = some [.list ws, .list [], .list (sliceL ws (some 1) none), .list (a.map .str), .list ((a.map (32 :: ·)).map .str), .list (sliceL ws (some 1) none), .list (b.map .str), .list ((b.map (9 :: ·)).map .str)] from rfl)
                have hs : ∀ h : MH, listAt h 0 = some ws → slcV (.ref 0) (.int 1) .none h = some (.ref h.length, h ++ [.list (sliceL ws (some 1) none)]) := fun h hh => slcL_from hh (by (first | lia | omega))
                have hi := idx_ref (k := 0) (H := [.list ws, .list [], .list (sliceL ws (some 1) none), .list (a.map .str), .list ((a.map (32 :: ·)).map .str), .list (sliceL ws (some 1) none)]) (l := 0) rfl (by decide) hx
                have hadd : binV .Add (.ref 4) (.ref 7) [.list ws, .list [], .list (sliceL ws (some 1) none), .list (a.map .str), .list ((a.map (32 :: ·)).map .str), .list (sliceL ws (some 1) none), .list (b.map .str), .list ((b.map (9 :: ·)).map .str)] = some (.ref 8, [.list ws, .list [], .list (sliceL ws (some 1) none), .list (a.map .str), .list ((a.map (32 :: ·)).map .str), .list (sliceL ws (some 1) none), .list (b.map .str), .list ((b.map (9 :: ·)).map .str), .list ((a.map (32 :: ·)).map .str ++ (b.map (9 :: ·)).map .str)]) :=
                  add_at rfl rfl (by simp only [List.length_map]; (first | lia | omega))
                refine ⟨pure_lists (j := 7) (D := d_law_ways) (h' := [.list ws, .list [], .list (sliceL ws (some 1) none), .list (a.map .str), .list ((a.map (32 :: ·)).map .str), .list (sliceL ws (some 1) none), .list (b.map .str), .list ((b.map (9 :: ·)).map .str), .list ((a.map (32 :: ·)).map .str ++ (b.map (9 :: ·)).map .str)]) (by rfl) (by rfl) hl hat rfl (fDef_ret rfl rfl (x_cons (x_skip tst0) (x_cons (x_skip (y_tcmp (y_loc rfl) (y_lst y_nil (Nat.le_of_ble_eq_true rfl)) (eqv _ hne)))
                  (x_cons (x_asg (y_comp (y_call (y_glb rfl) (y_cons (y_slc (y_loc rfl) rfl rfl (hs _ rfl)) (y_cons (y_loc rfl) y_nil)) c1) rfl m1))
                    (x_ret (y_bin (y_loc rfl) (y_comp (y_call (y_glb rfl) (y_cons (y_slc (y_loc rfl) rfl rfl (hs _ rfl)) (y_cons (y_subE (y_loc rfl) (y_idx (y_loc rfl) rfl hi) rfl) y_nil)) c2) rfl m2) (by exact hadd))))))) rfl (by rw [List.map_append]; rfl) ?_, ?_⟩ <;> rw [List.map_append] <;> exact atoms_app (atoms_cons rfl hfit.1) (atoms_cons rfl hfit.2)
              · cases e
            · cases e
          · cases e
    · cases e
end Rz
end P20
section P21
open PySem PySem.W PySem.Calls PyProof.Rows
namespace Rz
set_option linter.unusedVariables false
set_option linter.unusedSimpArgs false
set_option maxRecDepth 100000
/-! the greedy and the lazy way -/
noncomputable def pick {α : Type} (b : Bool) (x y : α) : α := match b with
  | true => x
  | false => y
noncomputable def greedyF (ns : List Int) : Int → List Nat → List Nat := List.rec (fun _ s => s) (fun x _ ih left s => pick (decide (x ≤ left)) (ih (left - x) (s ++ [9])) (ih left (s ++ [32]))) ns
theorem greedyF_cons (x : Int) (r : List Int) (left : Int) (s : List Nat) : greedyF (x :: r) left s = pick (decide (x ≤ left)) (greedyF r (left - x) (s ++ [9])) (greedyF r left (s ++ [32])) := rfl
noncomputable def lzS (ws : List V) (ih : Nat → Int → List Nat → Option (List Nat)) (k : Nat) (left : Int) (s : List Nat) : Option (List Nat) := match intsOf (sliceL ws (some ((k : Int) + 1)) none) with
  | none => none
  | some ns => match decide (ns.sum < left) with
    | true => match ws[k]? with
      | some (.int x) => ih (k + 1) (left - x) (s ++ [9])
      | _ => none
    | false => ih (k + 1) left (s ++ [32])
noncomputable def lazyF (ws : List V) (n : Nat) : Nat → Int → List Nat → Option (List Nat) := Nat.rec (fun _ _ s => some s) (fun _ ih => lzS ws ih) n
noncomputable def grBody : Ss := forBody (nthS 1 (bodyS d_law_greedy))
noncomputable def lzBody : Ss := forBody (nthS 1 (bodyS d_law_lazy))
theorem gr_loop {C : Call} {ns : List Int} (hl : ns.length ≤ 100) : ∀ (k j m : Nat) (fr : Fr) (left : Int) (s : List Nat), j + k = ns.length → k < m → s.length + k ≤ 1000 → lk fr.loc 104 = some (.int left) → lk fr.loc 98 = some (.str s) →
    ∃ fr', forL (nextI C) (fun v fr h => (stT (.loc 106) v fr h).bind fun q => fSs GG C 200 grBody q.1 q.2) m (.lst 0 j) fr [.list (ns.map .int)] = some (.nxt, fr', [.list (ns.map .int)]) ∧ lk fr'.loc 98 = some (.str (greedyF (ns.drop j) left s)) := by
  intro k
  induction k with
  | zero =>
    intro j m fr left s hj hm hs e1 e2
    obtain ⟨m, rfl⟩ := fuel hm
    refine ⟨fr, for_stop (lst_end (vs := ns.map .int) rfl (List.getElem?_eq_none (by rw [List.length_map]; (first | lia | omega)))), ?_⟩
    rw [List.drop_of_length_le (by (first | lia | omega))]
    exact e2
  | succ k ih =>
    intro j m fr left s hj hm hs e1 e2
    obtain ⟨m, rfl⟩ := fuel hm
    have jw : j < ns.length := by (first | lia | omega)
    have gw : (ns.map V.int)[j]? = some (.int ns[j]) := by rw [List.getElem?_map, List.getElem?_eq_getElem jw]; rfl
    have hadd : ∀ x : Nat, s.length + [x].length ≤ 16777216 := fun x => by rw [List.length_singleton]; (first | lia | omega)
    rw [List.drop_eq_getElem_cons jw, greedyF_cons]
    by_cases hc : ns[j] ≤ left
    · obtain ⟨fr', g1, g2⟩ := ih (j + 1) m ⟨put (put (put fr.loc 106 (.int ns[j])) 98 (.str (s ++ [9]))) 104 (.int (left - ns[j])), fr.cel⟩ (left - ns[j]) (s ++ [9]) (by (first | lia | omega)) (by (first | lia | omega)) (by simp; (first | lia | omega)) lk_eq (lk_ne rfl lk_eq)
      rw [decide_eq_true hc]
      exact ⟨fr', (for_go (lst_next rfl gw) (x_bind (x_cons (x_if (t_le_t (y_loc lk_eq) (y_loc (lk_ne rfl e1)) hc) (x_cons (x_asg (y_bin (y_loc (lk_ne rfl e2)) rfl (add_str (hadd 9)))) (x_cons (x_asg (y_subE (y_loc (lk_ne rfl (lk_ne rfl e1))) (y_loc (lk_ne rfl lk_eq)) rfl)) rfl))) rfl))).trans g1, g2⟩
    · obtain ⟨fr', g1, g2⟩ := ih (j + 1) m ⟨put (put fr.loc 106 (.int ns[j])) 98 (.str (s ++ [32])), fr.cel⟩ left (s ++ [32]) (by (first | lia | omega)) (by (first | lia | omega)) (by simp; (first | lia | omega)) (lk_ne rfl (lk_ne rfl e1)) lk_eq
      rw [decide_eq_false hc]
      exact ⟨fr', (for_go (lst_next rfl gw) (x_bind (x_cons (x_else (t_le_f (y_loc lk_eq) (y_loc (lk_ne rfl e1)) hc) (x_cons (x_asg (y_bin (y_loc (lk_ne rfl e2)) rfl (add_str (hadd 32)))) rfl)) rfl))).trans g1, g2⟩
theorem greedy {d l : Nat} {ns : List Int} {left : Int} {H : MH} (hl : ns.length ≤ 100) (e : listAt H l = some (ns.map .int)) : CI (d + 1) (.con 28) [.ref l, .int left] H = some (.str (greedyF ns left []), H) := by
  obtain ⟨fr', g1, g2⟩ := gr_loop (C := CI d) hl ns.length 0 200 ⟨[(103, .ref 0), (104, .int left), (98, .str [])], []⟩ left [] (by (first | lia | omega)) (by (first | lia | omega)) (by simp; (first | lia | omega)) rfl rfl
  exact pure_list (h' := [.list (ns.map .int)]) (D := d_law_greedy) (by rfl) (by rfl) e (allAtoms_ints ns) rfl rfl (fDef_ret rfl rfl (x_cons (x_asg rfl) (x_cons (x_for (vi := .ref 0) (y_loc rfl) rfl g1) (x_ret (y_loc g2))))) rfl
theorem lz_loop {C : Call} {ws : List V} (hw : ws.length ≤ 100) {u : List Nat} : ∀ (n k m : Nat) (fr : Fr) (H : MH) (left : Int) (s : List Nat), lazyF ws n k left s = some u → k + n ≤ 1000 → n < m → s.length + n ≤ 1000 → H[0]? = some (.list ws) → lk fr.loc 103 = some (.ref 0) → lk fr.loc 104 = some (.int left) → lk fr.loc 98 = some (.str s) →
    ∃ (fr' : Fr) (H' : MH), forL (nextI C) (fun v fr h => (stT (.loc 107) v fr h).bind fun q => fSs GG C 200 lzBody q.1 q.2) m (.rng (k : Nat) n 1) fr H = some (.nxt, fr', H') ∧ lk fr'.loc 98 = some (.str u) ∧ H'[0]? = some (.list ws) := by
  intro n
  induction n with
  | zero =>
    intro k m fr H left s e hk hm hs h0 e1 e2 e3
    obtain ⟨m, rfl⟩ := fuel hm
    have : s = u := Option.some.inj (show some s = some u from e)
    subst this
    exact ⟨fr, H, for_stop rfl, e3, h0⟩
  | succ n ih =>
    intro k m fr H left s e hk hm hs h0 e1 e2 e3
    obtain ⟨m, rfl⟩ := fuel hm
    change lzS ws (lazyF ws n) k left s = some u at e
    unfold lzS at e
    have hadd : ∀ x : Nat, s.length + [x].length ≤ 16777216 := fun x => by rw [List.length_singleton]; (first | lia | omega)
    split at e
    · cases e
    · rename_i ns hn
      have gt : cmpV .Gt (.int left) (.int ns.sum) (H ++ [.list (sliceL ws (some ((k : Int) + 1)) none)]) = some (decide (ns.sum < left)) := rfl
      have tt : fT GG C 200 (.cmp .Gt (.loc 104) (.prim .sum (.cons (.slc (.loc 103) (.bin .Add (.loc 107) (.lit (.int 1))) (.lit .none)) (.nil)))) ⟨put fr.loc 107 (.int (k : Nat)), fr.cel⟩ H = some (decide (ns.sum < left), H ++ [.list (sliceL ws (some ((k : Int) + 1)) none)]) :=
        y_tcmp (y_loc (lk_ne rfl e2)) (y_prim (y_cons (y_slc (y_loc (lk_ne rfl e1)) (y_bin (y_loc lk_eq) rfl rfl) rfl (slcL_from (listAt_of h0) (by (first | lia | omega)))) y_nil) (sum_at (listAt_of app_new) hn)) gt
      split at e
      · rename_i hq
        rw [hq] at tt
        split at e
        · rename_i x hx
          obtain ⟨fr', H', g1, g2, g3⟩ := ih (k + 1) m ⟨put (put (put fr.loc 107 (.int (k : Nat))) 98 (.str (s ++ [9]))) 104 (.int (left - x)), fr.cel⟩ (H ++ [.list (sliceL ws (some ((k : Int) + 1)) none)]) (left - x) (s ++ [9]) e (by (first | lia | omega)) (by (first | lia | omega)) (by simp; (first | lia | omega)) (app_at h0) (lk_ne rfl (lk_ne rfl (lk_ne rfl e1))) lk_eq (lk_ne rfl lk_eq)
          exact ⟨fr', H', (for_go rfl (x_bind (x_cons (x_if tt (x_cons (x_asg (y_bin (y_loc (lk_ne rfl e3)) rfl (add_str (hadd 9)))) (x_cons (x_asg (y_subE (y_loc (lk_ne rfl (lk_ne rfl e2))) (y_idx (y_loc (lk_ne rfl (lk_ne rfl e1))) (y_loc (lk_ne rfl lk_eq)) (idx_ref (listAt_of (app_at h0)) (by (first | lia | omega)) hx)) rfl)) rfl))) rfl))).trans g1, g2, g3⟩
        · cases e
      · rename_i hq
        rw [hq] at tt
        obtain ⟨fr', H', g1, g2, g3⟩ := ih (k + 1) m ⟨put (put fr.loc 107 (.int (k : Nat))) 98 (.str (s ++ [32])), fr.cel⟩ (H ++ [.list (sliceL ws (some ((k : Int) + 1)) none)]) left (s ++ [32]) e (by (first | lia | omega)) (by (first | lia | omega)) (by simp; (first | lia | omega)) (app_at h0) (lk_ne rfl (lk_ne rfl e1)) (lk_ne rfl (lk_ne rfl e2)) lk_eq
        exact ⟨fr', H', (for_go rfl (x_bind (x_cons (x_else tt (x_cons (x_asg (y_bin (y_loc (lk_ne rfl e3)) rfl (add_str (hadd 32)))) rfl)) rfl))).trans g1, g2, g3⟩
theorem lazy {d l : Nat} {ws : List V} {left : Int} {u : List Nat} {H : MH} (hl : ws.length ≤ 100) (hat : allAtoms ws = true) (hu : lazyF ws ws.length 0 left [] = some u) (e : listAt H l = some ws) : CI (d + 1) (.con 29) [.ref l, .int left] H = some (.str u, H) := by
  obtain ⟨fr', H', g1, g2, g3⟩ := lz_loop (C := CI d) hl ws.length 0 200 ⟨[(103, .ref 0), (104, .int left), (98, .str [])], []⟩ [.list ws] left [] hu (by (first | lia | omega)) (by (first | lia | omega)) (by simp; (first | lia | omega)) rfl rfl rfl rfl
  exact pure_list (D := d_law_lazy) (by rfl) (by rfl) e hat rfl rfl (fDef_ret rfl rfl (x_cons (x_asg rfl) (x_cons (x_for (vi := .rng 0 (ws.length : Nat) 1) (y_prim (y_cons (y_prim (y_cons (y_loc rfl) y_nil) (len_at rfl (by (first | lia | omega)))) y_nil) rfl) (iter_rng (by (first | lia | omega))) g1) (x_ret (y_loc g2))))) (listAt_of g3)
end Rz
end P21
section P22
open PySem PySem.W PySem.Calls PyProof.Rows
namespace Rz
set_option linter.unusedVariables false
set_option linter.unusedSimpArgs false
set_option maxRecDepth 100000
section
variable {G : Gl} {C : Call} {n : Nat} {fr fr1 fr2 : Fr} {h h1 h2 h3 h4 : MH} {v w : V} {x y : Nat} {e : E} {s : St} {ss a b : Ss}
theorem x_augA {o : E} {op : Operator} {vo old u : V} (ho : fE G C n o fr h = some (vo, h1)) (hold : attV G vo x h1 = some old) (he : fE G C n e fr h1 = some (v, h2)) (hg : augV op old v h2 = some (u, h3)) (hs : setAV G vo x u h3 = some h4) : fS G C n (.augA o x op e) fr h = some (.nxt, fr, h4) := by
  exact bnd_of ho (bnd_of hold (bnd_of he (bnd_of hg (map_of hs))))
theorem for_ret {nx : It → MH → Option (Option (V × It) × MH)} {body : V → Fr → MH → Out} {m : Nat} {it it' : It} (hn : nx it h = some (some (v, it'), h1)) (hb : body v fr h1 = some (.ret w, fr1, h2)) : forL nx body (m + 1) it fr h = some (.ret w, fr1, h2) := bnd_of hn (bnd_of hb rfl)
theorem for_cnt {nx : It → MH → Option (Option (V × It) × MH)} {body : V → Fr → MH → Out} {m : Nat} {it it' : It} (hn : nx it h = some (some (v, it'), h1)) (hb : body v fr h1 = some (.cnt, fr1, h2)) : forL nx body (m + 1) it fr h = forL nx body m it' fr1 h2 := bnd_of hn (bnd_of hb rfl)
theorem x_cont (h0 : fS G C n s fr h = some (.cnt, fr1, h1)) : fSs G C n (.cons s ss) fr h = some (.cnt, fr1, h1) := bnd_of h0 rfl
theorem pop_at {i : Nat} {vs : List V} (e : h[i]? = some (.list (vs ++ [v]))) (hs : vs.length < 16777215) : biM 2 (.ref i) [] h = some (v, h.set i (.list vs)) := by
  show onL (listAt h i) (fun vs => onL vs[vs.length - 1]? fun v => if vs.length ≤ 16777215 then some (v, h.set i (.list (vs.take (vs.length - 1)))) else none) = _
  rw [listAt_of e]
  dsimp only [onL]
  rw [List.length_append, List.length_singleton, Nat.add_sub_cancel, List.getElem?_append_right (Nat.le_refl _), Nat.sub_self]
  dsimp only [List.getElem?_cons_zero]
  rw [if_pos (by (first | lia | omega)), List.take_left']
  rfl
theorem pop0_at {i : Nat} {vs : List V} (e : h[i]? = some (.list (v :: vs))) (hs : vs.length ≤ 16777214) : biM 2 (.ref i) [.int 0] h = some (v, h.set i (.list vs)) := by
  show popV i [.int 0] h = _
  unfold popV
  exact (onL_of (listAt_of e)).trans (if_pos ⟨rfl, hs⟩)
theorem callee_own {i c d x : Nat} {kv : List (Nat × V)} (hi : h[i]? = some (.inst c d)) (hd : h[d]? = some (.dict kv)) (hl : lk kv x = some v) (g : GG.dat c x = true) : calleeV GG (.ref i) x h = some (.val v []) := (onL_of hi).trans (getV_dat hi hd hl g)
theorem att_bm {i c d x k : Nat} {kv : List (Nat × V)} (hi : h[i]? = some (.inst c d)) (hd : h[d]? = some (.dict kv)) (hl : lk kv x = none) (hn : Nat.ble x 399 = true) (g : GG.m c x = some k) : attV GG (.ref i) x h = some (.bm k i) := getV_mth hi hd hl hn g
theorem fDef_expr {D : MDef} {cs : List Nat} {args : List V} {H H1 H2 : MH} {fr1 : Fr} (hb : D.body = .expr e) (hc : D.cells = []) (hp : stTs D.ps args ⟨[], D.fv.zip cs⟩ H = some (fr1, H1)) (hh : fE G C n e fr1 H1 = some (v, H2)) : runDef G C n D cs args H = some (v, H2) := by
  have hp' : stTs D.ps args ⟨[], zipN D.cells H.length ++ D.fv.zip cs⟩ (H ++ D.cells.map fun _ => .cell none) = some (fr1, H1) := by
    rw [hc]; show stTs _ _ _ (H ++ []) = _; rw [List.append_nil]; exact hp
  exact bnd_of hp' (by rw [hb]; exact hh)
end
theorem CI_bm (d k i : Nat) (D : MDef) (hD : DD.fn k = some D) (vs : List V) (H : MH) : CI (d + 1) (.bm k i) vs H = runDef GG (CI d) 200 D [] (.ref i :: vs) H := onL_of hD
/-! the lexer -/
noncomputable def sgs : List Nat → List V
  | [] => []
  | c :: r => sgs r ++ [.str [c]]
structure LI (b : Nat) (H : MH) (chars : List Nat) (line : Int) (pend : List (List Nat)) : Prop where
  c : H[b]? = some (.cell (some (.ref (b + 1))))
  sg : H[b + 1]? = some (.list (sgs chars))
  ds : H[b + 2]? = some (.dict [(62, .int 1), (61, .none), (60, .str [10, 9, 13, 32]), (59, .ref (b + 4)), (65, .clo 502 [b])])
  s : H[b + 3]? = some (.inst 0 (b + 2))
  dl : H[b + 5]? = some (.dict [(62, .int line), (61, .ref (b + 3)), (60, .str [10, 9, 13, 32]), (59, .ref (b + 7))])
  l : H[b + 6]? = some (.inst 0 (b + 5))
  pb : H[b + 7]? = some (.list (pend.map .str))
  ok : chars.all (Nat.ble · 127) = true
  len : chars.length ≤ 1000
noncomputable def Out8 (b i : Nat) : Prop := i < b ∨ b + 8 ≤ i
theorem sgs_ok : ∀ {cs : List Nat}, cs.all (Nat.ble · 127) = true → allAtoms (sgs cs) = true
  | [], _ => rfl
  | c :: r, h => by
    rw [List.all_cons, Bool.and_eq_true] at h
    refine atoms_app (sgs_ok h.2) ?_
    show (PyData.strOk ⟨[c].toArray⟩ && true) = true
    rw [strOk_of (s := [c]) (by rw [List.all_cons, h.1]; rfl)]; rfl
theorem sgs_len : ∀ cs : List Nat, (sgs cs).length = cs.length
  | [] => rfl
  | c :: r => by rw [sgs, List.length_append, sgs_len r]; rfl
noncomputable def lineOf (c : Nat) (line : Int) : Int := match natsEq [c] [10] with
  | true => line + 1
  | false => line
theorem LI.app {b : Nat} {H L : MH} {chars : List Nat} {line : Int} {pend : List (List Nat)} (I : LI b H chars line pend) : LI b (H ++ L) chars line pend :=
  ⟨app_at I.c, app_at I.sg, app_at I.ds, app_at I.s, app_at I.dl, app_at I.l, app_at I.pb, I.ok, I.len⟩
theorem read_code {d b : Nat} {H : MH} {c : Nat} {rest : List Nat} {line : Int} {pend : List (List Nat)} (I : LI b H (c :: rest) line pend) : ∃ H' : MH, runDef GG (CI (d + 1)) 200 d_netrclex__read_char [] [.ref (b + 6)] H = some (.str [c], H') ∧ LI b H' rest (lineOf c line) pend ∧ ∀ (i : Nat) o, Out8 b i → H[i]? = some o → H'[i]? = some o := by
  have hl := I.len
  rw [List.length_cons] at hl
  have hok := I.ok
  rw [List.all_cons, Bool.and_eq_true] at hok
  have J := I.app (L := [AO.list []])
  have pop := pop_at (h := H ++ [AO.list []]) (vs := sgs rest) (v := .str [c]) J.sg (by rw [sgs_len]; (first | lia | omega))
  have ne : cmpV .NotEq (.ref (b + 1)) (.ref H.length) (H ++ [AO.list []]) = some true := by
    refine (congrArg (Option.map (!·)) (eqL_at (listAt_of J.sg) (listAt_of app_new) (sgs_ok I.ok) rfl)).trans ?_
    have : eqAtoms (sgs (c :: rest)) [] = false := by
      rw [sgs]
      cases sgs rest with
      | nil => rfl
      | cons v r => cases v <;> rfl
    rw [this]; rfl
  have clo : CI (d + 1) (.clo 502 [b]) [.int 1] H = some (.str [c], (H ++ [AO.list []]).set (b + 1) (.list (sgs rest))) := by
    rw [CI_clo d 502 _ dClo502 (by rfl)]
    exact fDef_expr rfl rfl rfl (y_ifT (y_tcmp (y_cel rfl I.c) (y_lst y_nil (Nat.le_of_ble_eq_true rfl)) ne) (y_bi (y_cel rfl J.c) (callee_list J.sg) y_nil pop))
  have K : LI b ((H ++ [AO.list []]).set (b + 1) (.list (sgs rest))) rest line pend :=
    ⟨set_ne (by (first | lia | omega)) J.c, set_at J.sg, set_ne (by (first | lia | omega)) J.ds, set_ne (by (first | lia | omega)) J.s, set_ne (by (first | lia | omega)) J.dl, set_ne (by (first | lia | omega)) J.l, set_ne (by (first | lia | omega)) J.pb, hok.2, by (first | lia | omega)⟩
  have keep : ∀ (i : Nat) o, Out8 b i → H[i]? = some o → ((H ++ [AO.list []]).set (b + 1) (.list (sgs rest)))[i]? = some o := fun i o hi e => set_ne (by unfold Out8 at hi; (first | lia | omega)) (app_at e)
  generalize (H ++ [AO.list []]).set (b + 1) (.list (sgs rest)) = H1 at *
  have s0 : fE GG (CI (d + 1)) 200 (.mth (.att (.loc 57) 61) 65 (.cons (.lit (.int 1)) (.nil))) ⟨[(57, .ref (b + 6))], []⟩ H = some (.str [c], H1) :=
    y_val (y_att (y_loc rfl) (attr_at I.l I.dl rfl (by rfl))) (callee_own I.s I.ds rfl (by rfl)) (y_cons rfl y_nil) clo
  unfold lineOf
  cases hq : natsEq [c] [10] with
  | true =>
    refine ⟨_, fDef_ret0 rfl rfl rfl (x_cons (x_asg s0) (x_cons (x_if (t_str (y_loc rfl) rfl hq) (x_cons (x_augA (u := .int (line + 1)) (y_loc rfl) (attr_at K.l K.dl rfl (by rfl)) rfl rfl (setA_at K.l K.dl (by rfl) rfl rfl)) rfl)) (x_ret (y_loc rfl)))), ?_, fun i o hi e => set_ne (by unfold Out8 at hi; (first | lia | omega)) (keep i o hi e)⟩
    exact ⟨set_ne (by (first | lia | omega)) K.c, set_ne (by (first | lia | omega)) K.sg, set_ne (by (first | lia | omega)) K.ds, set_ne (by (first | lia | omega)) K.s, set_at K.dl, set_ne (by (first | lia | omega)) K.l, set_ne (by (first | lia | omega)) K.pb, K.ok, K.len⟩
  | false => exact ⟨_, fDef_ret0 rfl rfl rfl (x_cons (x_asg s0) (x_cons (x_skip (t_str (y_loc rfl) rfl hq)) (x_ret (y_loc rfl)))), K, keep⟩
theorem read_end {d b : Nat} {H : MH} {line : Int} {pend : List (List Nat)} (I : LI b H [] line pend) : runDef GG (CI (d + 1)) 200 d_netrclex__read_char [] [.ref (b + 6)] H = some (.str [], H ++ [AO.list []]) := by
  have J := I.app (L := [AO.list []])
  have ne : cmpV .NotEq (.ref (b + 1)) (.ref H.length) (H ++ [AO.list []]) = some false := by
    exact (congrArg (Option.map (!·)) (eqL_at (listAt_of J.sg) (listAt_of app_new) rfl rfl)).trans rfl
  have clo : CI (d + 1) (.clo 502 [b]) [.int 1] H = some (.str [], H ++ [AO.list []]) := by
    rw [CI_clo d 502 _ dClo502 (by rfl)]
    exact fDef_expr rfl rfl rfl (y_ifF (y_tcmp (y_cel rfl I.c) (y_lst y_nil (Nat.le_of_ble_eq_true rfl)) ne) rfl)
  exact fDef_ret0 rfl rfl rfl (x_cons (x_asg (y_val (y_att (y_loc rfl) (attr_at I.l I.dl rfl (by rfl))) (callee_own I.s I.ds rfl (by rfl)) (y_cons rfl y_nil) clo)) (x_cons (x_skip (t_str (y_loc rfl) rfl rfl)) (x_ret (y_loc rfl))))
end Rz
end P22
section P23
open PySem PySem.W PySem.Calls PyProof.Rows
namespace Rz
set_option linter.unusedVariables false
set_option linter.unusedSimpArgs false
set_option maxRecDepth 100000
noncomputable def ifT : St → Ss
  | .ife _ a _ => a
  | _ => .nil
noncomputable def ifE : St → Ss
  | .ife _ _ b => b
  | _ => .nil
noncomputable def gtBody : Ss := forBody (nthS 3 (bodyS d_netrclex_get_token))
noncomputable def qBody : Ss := forBody (nthS 0 (ifT (nthS 1 gtBody)))
noncomputable def bBody : Ss := forBody (nthS 2 (ifE (nthS 1 gtBody)))
noncomputable abbrev frT (b : Nat) (tok : List Nat) (f : Nat) (ch : List Nat) : Fr := ⟨[(57, .ref (b + 6)), (67, .str tok), (68, .ref f), (64, .str ch)], []⟩
noncomputable def Keep8 (b : Nat) (H H' : MH) : Prop := ∀ (i : Nat) o, Out8 b i → H[i]? = some o → H'[i]? = some o
theorem Keep8.trans {b : Nat} {H H' H'' : MH} (x : Keep8 b H H') (y : Keep8 b H' H'') : Keep8 b H H'' := fun i o hi e => y i o hi (x i o hi e)
section
variable {d b f : Nat} {H : MH} {line : Int} {pend : List (List Nat)} {rest : List Nat}
theorem cit_next {c : Nat} (I : LI b H (c :: rest) line pend) (hf : H[f]? = some (.cit 301 (b + 6) true)) (hb : b + 8 ≤ f) : ∃ H' : MH, nextI (CI (d + 2)) (.obj f) H = some (some (.str [c], .obj f), H') ∧ LI b H' rest (lineOf c line) pend ∧ Keep8 b H H' := by
  obtain ⟨H', e, J, k⟩ := read_code (d := d) I
  refine ⟨H', ?_, J, k⟩
  exact (onL_of hf).trans ((onL_of ((CI_bm (d + 1) 301 (b + 6) d_netrclex__read_char (by rfl) [] H).trans e)).trans (onL_of (k f _ (.inr hb) hf)))
theorem cit_stop (I : LI b H [] line pend) (hf : H[f]? = some (.cit 301 (b + 6) true)) (hb : b + 8 ≤ f) : ∃ H' : MH, nextI (CI (d + 2)) (.obj f) H = some (none, H') ∧ LI b H' [] line pend ∧ H'[f]? = some (.cit 301 (b + 6) false) ∧ ∀ (i : Nat) o, Out8 b i → i ≠ f → H[i]? = some o → H'[i]? = some o := by
  have J := I.app (L := [AO.list []])
  have hf' := app_at (L := [AO.list []]) hf
  refine ⟨(H ++ [AO.list []]).set f (.cit 301 (b + 6) false), ?_, ⟨set_ne (by (first | lia | omega)) J.c, set_ne (by (first | lia | omega)) J.sg, set_ne (by (first | lia | omega)) J.ds, set_ne (by (first | lia | omega)) J.s, set_ne (by (first | lia | omega)) J.dl, set_ne (by (first | lia | omega)) J.l, set_ne (by (first | lia | omega)) J.pb, J.ok, J.len⟩, set_at hf', fun i o _ ni e => set_ne (Ne.symm ni) (app_at e)⟩
  exact (onL_of hf).trans ((onL_of ((CI_bm (d + 1) 301 (b + 6) d_netrclex__read_char (by rfl) [] H).trans (read_end I))).trans (onL_of hf'))
theorem cit_dead {C : Call} {k j : Nat} (hf : H[f]? = some (.cit k j false)) : nextI C (.obj f) H = some (none, H) := onL_of hf
theorem iter_cit {k j : Nat} {q : Bool} (hf : H[f]? = some (.cit k j q)) : iterOf (.ref f) H = some (.obj f) := onL_of hf
theorem self_read {c : Nat} {fr : Fr} (I : LI b H (c :: rest) line pend) (e : lk fr.loc 57 = some (.ref (b + 6))) : ∃ H' : MH, fE GG (CI (d + 2)) 200 (.mth (.loc 57) 66 (.nil)) fr H = some (.str [c], H') ∧ LI b H' rest (lineOf c line) pend ∧ Keep8 b H H' := by
  obtain ⟨H', e1, J, k⟩ := read_code (d := d) I
  exact ⟨H', y_val (y_loc e) (meth_at I.l I.dl rfl rfl (by rfl)) y_nil ((CI_fn (d := d + 1) (by rfl) (by rfl)).trans e1), J, k⟩
theorem aug_tok {tok : List Nat} {c : Nat} {ch : List Nat} {C : Call} {h : MH} (hs : tok.length ≤ 2000) : fS GG C 200 (.aug (.loc 67) .Add (.loc 64)) (frT b tok f [c]) h = some (.nxt, frT b (tok ++ [c]) f [c], h) :=
  x_aug (old := .str tok) (v := .str [c]) (u := .str (tok ++ [c])) rfl (y_loc rfl) (by
    show (if tok.length + [c].length ≤ 16777216 then some (V.str (tok ++ [c]), h) else none) = _
    rw [if_pos (by rw [List.length_singleton]; (first | lia | omega))])
theorem q_loop (hb : b + 8 ≤ f) : ∀ (w : List Nat) (m : Nat) (tok ch : List Nat) (H : MH), allBT w = true → LI b H (w ++ 34 :: rest) line pend → H[f]? = some (.cit 301 (b + 6) true) → w.length < m → tok.length + w.length ≤ 1000 →
    ∃ (fr' : Fr) (H' : MH), forL (nextI (CI (d + 2))) (fun v fr h => (stT (.loc 64) v fr h).bind fun q => fSs GG (CI (d + 2)) 200 qBody q.1 q.2) m (.obj f) (frT b tok f ch) H = some (.ret (.str (tok ++ w)), fr', H') ∧ LI b H' rest line pend ∧ Keep8 b H H'
  | [], m, tok, ch, H, hw, I, hf, hm, hl => by
    obtain ⟨m, rfl⟩ := fuel hm
    obtain ⟨H', e, J, k⟩ := cit_next (d := d) I hf hb
    rw [List.append_nil]
    exact ⟨_, H', for_ret e (x_bind (x_stop (x_if (t_str (y_loc rfl) rfl rfl) (x_ret (y_loc rfl))))), J, k⟩
  | c :: r, m, tok, ch, H, hw, I, hf, hm, hl => by
    obtain ⟨m, rfl⟩ := fuel hm
    obtain ⟨hc, hr⟩ := allBT_cons hw
    rw [List.length_cons] at hm hl
    obtain ⟨H1, e, J, k⟩ := cit_next (d := d) I hf hb
    have hln : lineOf c line = line := by rcases hc with rfl | rfl <;> rfl
    rw [hln] at J
    have n1 : natsEq [c] [34] = false := by rcases hc with rfl | rfl <;> rfl
    have n2 : natsEq [c] [92] = false := by rcases hc with rfl | rfl <;> rfl
    obtain ⟨fr', H', g, K, k2⟩ := q_loop hb r m (tok ++ [c]) [c] H1 hr J (k f _ (.inr hb) hf) (by (first | lia | omega)) (by simp; (first | lia | omega))
    rw [List.append_assoc] at g
    exact ⟨fr', H', (for_go e (x_bind (x_cons (x_else (t_str (y_loc rfl) rfl n1) (x_cons (x_skip (t_str (y_loc rfl) rfl n2)) rfl)) (x_cons (aug_tok (ch := []) (by (first | lia | omega))) rfl)))).trans g, K, k.trans k2⟩
noncomputable def esc : List Nat → List Nat
  | [] => []
  | c :: r => 92 :: c :: esc r
theorem ws_at {C : Call} {fr : Fr} {h : MH} {c : Nat} {q : Bool} {chars : List Nat} (I : LI b h chars line pend) (e57 : lk fr.loc 57 = some (.ref (b + 6))) (e64 : lk fr.loc 64 = some (.str [c])) (hq : inSigns c [10, 9, 13, 32] = q) : fT GG C 200 (.cmp .In (.loc 64) (.att (.loc 57) 60)) fr h = some (q, h) :=
  y_tcmp (y_loc e64) (y_att (y_loc e57) (attr_at I.l I.dl rfl (by rfl))) (congrArg some hq)
theorem b_loop (hb : b + 8 ≤ f) : ∀ (w : List Nat) (m : Nat) (tok ch : List Nat) (H : MH), allBT w = true → LI b H (esc w ++ 10 :: rest) line pend → H[f]? = some (.cit 301 (b + 6) true) → w.length < m → tok.length + w.length ≤ 1000 →
    ∃ (fr' : Fr) (H' : MH), forL (nextI (CI (d + 2))) (fun v fr h => (stT (.loc 64) v fr h).bind fun q => fSs GG (CI (d + 2)) 200 bBody q.1 q.2) m (.obj f) (frT b tok f ch) H = some (.ret (.str (tok ++ w)), fr', H') ∧ LI b H' rest (line + 1) pend ∧ Keep8 b H H'
  | [], m, tok, ch, H, hw, I, hf, hm, hl => by
    obtain ⟨m, rfl⟩ := fuel hm
    obtain ⟨H', e, J, k⟩ := cit_next (d := d) I hf hb
    rw [List.append_nil]
    exact ⟨_, H', for_ret e (x_bind (x_stop (x_if (ws_at J rfl rfl rfl) (x_ret (y_loc rfl))))), J, k⟩
  | c :: r, m, tok, ch, H, hw, I, hf, hm, hl => by
    obtain ⟨m, rfl⟩ := fuel hm
    obtain ⟨hc, hr⟩ := allBT_cons hw
    rw [List.length_cons] at hm hl
    obtain ⟨H1, e, J, k⟩ := cit_next (d := d) I hf hb
    obtain ⟨H2, e2, K, k2⟩ := self_read (d := d) (fr := frT b tok f [92]) J rfl
    have hln : lineOf c line = line := by rcases hc with rfl | rfl <;> rfl
    change LI b H2 _ (lineOf c line) pend at K
    rw [hln] at K
    obtain ⟨fr', H', g, K', k3⟩ := b_loop hb r m (tok ++ [c]) [c] H2 hr K (k2 f _ (.inr hb) (k f _ (.inr hb) hf)) (by (first | lia | omega)) (by simp; (first | lia | omega))
    rw [List.append_assoc] at g
    exact ⟨fr', H', (for_go e (x_bind (x_cons (x_else (ws_at J rfl rfl rfl) (x_cons (x_if (t_str (y_loc rfl) rfl rfl) (x_cons (x_asg e2) rfl)) rfl)) (x_cons (aug_tok (ch := []) (by (first | lia | omega))) rfl)))).trans g, K', (k.trans k2).trans k3⟩
end
end Rz
end P23
section P24
open PySem PySem.W PySem.Calls PyProof.Rows
namespace Rz
set_option linter.unusedVariables false
set_option linter.unusedSimpArgs false
set_option maxRecDepth 100000
section
variable {d b f : Nat} {H : MH} {line : Int} {pend : List (List Nat)} {rest : List Nat}
theorem true_nil {i : Nat} {h : MH} (e : h[i]? = some (.list [])) : trueV (.ref i) h = some false := onL_of (listAt_of e)
theorem true_cons {i : Nat} {v : V} {vs : List V} {h : MH} (e : h[i]? = some (.list (v :: vs))) (hs : (v :: vs).length ≤ 16777216) : trueV (.ref i) h = some true := (onL_of (listAt_of e)).trans (if_pos hs)
theorem tok_pend {w : List Nat} {r : List (List Nat)} {chars : List Nat} (I : LI b H chars line (w :: r)) (hr : r.length ≤ 1000) : ∃ H' : MH, CI (d + 3) (.con 302) [.ref (b + 6)] H = some (.str w, H') ∧ LI b H' chars line r ∧ Keep8 b H H' := by
  have hs : (r.map V.str).length ≤ 16777214 := by rw [List.length_map]; (first | lia | omega)
  refine ⟨H.set (b + 7) (.list (r.map .str)), (CI_fn (d := d + 2) (by rfl) (by rfl)).trans (fDef_ret0 (D := d_netrclex_get_token) rfl rfl rfl (x_stop (x_if (y_tval (y_att (y_loc rfl) (attr_at I.l I.dl rfl (by rfl))) (true_cons I.pb (by rw [List.length_cons]; (first | lia | omega)))) (x_ret (y_bi (y_att (y_loc rfl) (attr_at I.l I.dl rfl (by rfl))) (callee_list I.pb) (y_cons rfl y_nil) (pop0_at I.pb hs)))))), ?_, fun i o hi e => set_ne (by unfold Out8 at hi; (first | lia | omega)) e⟩
  exact ⟨set_ne (by (first | lia | omega)) I.c, set_ne (by (first | lia | omega)) I.sg, set_ne (by (first | lia | omega)) I.ds, set_ne (by (first | lia | omega)) I.s, set_ne (by (first | lia | omega)) I.dl, set_ne (by (first | lia | omega)) I.l, set_at I.pb, I.ok, I.len⟩
noncomputable abbrev frS (b f : Nat) : Fr := ⟨[(57, .ref (b + 6)), (67, .str []), (68, .ref f)], []⟩
/-- the walk up to the loop -/
theorem tok_head {chars chars' : List Nat} {line' : Int} {tok : List Nat} (I : LI b H chars line [])
    (k : LI b (H ++ [AO.cit 301 (b + 6) true]) chars line [] → b + 8 ≤ H.length → (H ++ [AO.cit 301 (b + 6) true])[H.length]? = some (.cit 301 (b + 6) true) → ∃ (fr' : Fr) (H' : MH), fSs GG (CI (d + 2)) 200 (dropS 3 (bodyS d_netrclex_get_token)) (frS b H.length) (H ++ [AO.cit 301 (b + 6) true]) = some (.ret (.str tok), fr', H') ∧ LI b H' chars' line' [] ∧ ∀ (i : Nat) o, Out8 b i → i ≠ H.length → (H ++ [AO.cit 301 (b + 6) true])[i]? = some o → H'[i]? = some o) :
    ∃ H' : MH, CI (d + 3) (.con 302) [.ref (b + 6)] H = some (.str tok, H') ∧ LI b H' chars' line' [] ∧ Keep8 b H H' := by
  obtain ⟨fr', H', e, J, kp⟩ := k I.app (at_lt I.pb) app_new
  exact ⟨H', (CI_fn (d := d + 2) (by rfl) (by rfl)).trans (fDef_ret0 (D := d_netrclex_get_token) rfl rfl rfl (x_cons (x_skip (y_tval (y_att (y_loc rfl) (attr_at I.l I.dl rfl (by rfl))) (true_nil I.pb))) (x_cons (x_asg rfl) (x_cons (x_asg (y_prim (y_cons (y_att (y_loc rfl) (att_bm I.l I.dl rfl rfl (by rfl))) (y_cons rfl y_nil)) rfl)) e)))), J, fun i o hi q => kp i o hi (Nat.ne_of_lt (at_lt q)) (app_at q)⟩
/-- a word in quotes -/
theorem tok_quoted {w : List Nat} (hw : allBT w = true) (hl : w.length ≤ 150) (I : LI b H (34 :: (w ++ 34 :: rest)) line []) : ∃ H' : MH, CI (d + 3) (.con 302) [.ref (b + 6)] H = some (.str w, H') ∧ LI b H' rest line [] ∧ Keep8 b H H' :=
  tok_head I fun J hf ef => by
    obtain ⟨H1, e1, J1, k1⟩ := cit_next (d := d) J ef hf
    obtain ⟨fr', H', e2, J2, k2⟩ := q_loop (d := d) hf w 200 [] [34] H1 hw J1 (k1 _ _ (.inr hf) ef) (by (first | lia | omega)) (by simp; (first | lia | omega))
    exact ⟨fr', H', x_stop (x_for (y_loc rfl) (iter_cit ef) (for_ret e1 (x_bind (x_cons (x_skip (ws_at J1 rfl rfl rfl)) (x_stop (x_if (t_str (y_loc rfl) rfl rfl) (x_stop (x_for (y_loc rfl) (iter_cit (k1 _ _ (.inr hf) ef)) e2)))))))), J2, fun i o hi _ e => k2 i o hi (k1 i o hi e)⟩
/-- a bare word, a backslash ahead of each sign -/
theorem tok_bare {c : Nat} {w : List Nat} (hw : allBT (c :: w) = true) (hl : w.length ≤ 150) (I : LI b H (esc (c :: w) ++ 10 :: rest) line []) : ∃ H' : MH, CI (d + 3) (.con 302) [.ref (b + 6)] H = some (.str (c :: w), H') ∧ LI b H' rest (line + 1) [] ∧ Keep8 b H H' :=
  tok_head I fun J hf ef => by
    obtain ⟨hc, hr⟩ := allBT_cons hw
    obtain ⟨H1, e1, J1, k1⟩ := cit_next (d := d) J ef hf
    obtain ⟨H2, e2, J2, k2⟩ := self_read (d := d) (fr := ⟨[(57, .ref (b + 6)), (67, .str []), (68, .ref H.length), (64, .str [92])], []⟩) J1 rfl
    have hln : lineOf c line = line := by rcases hc with rfl | rfl <;> rfl
    change LI b H2 _ (lineOf c line) [] at J2
    rw [hln] at J2
    have ef2 := k2 _ _ (.inr hf) (k1 _ _ (.inr hf) ef)
    obtain ⟨fr', H', e3, J3, k3⟩ := b_loop (d := d) hf w 200 ([] ++ [c]) [c] H2 hr J2 ef2 (by (first | lia | omega)) (by simp; (first | lia | omega))
    exact ⟨fr', H', x_stop (x_for (y_loc rfl) (iter_cit ef) (for_ret e1 (x_bind (x_cons (x_skip (ws_at J1 rfl rfl rfl)) (x_stop (x_else (t_str (y_loc rfl) rfl rfl) (x_cons (x_if (t_str (y_loc rfl) rfl rfl) (x_cons (x_asg e2) rfl)) (x_cons (aug_tok (tok := []) (ch := []) (by simp)) (x_stop (x_for (y_loc rfl) (iter_cit ef2) e3)))))))))), J3, fun i o hi _ e => k3 i o hi (k2 i o hi (k1 i o hi e))⟩
/-- the text is at its end -/
theorem tok_none (I : LI b H [] line []) : ∃ H' : MH, CI (d + 3) (.con 302) [.ref (b + 6)] H = some (.str [], H') ∧ LI b H' [] line [] ∧ Keep8 b H H' :=
  tok_head I fun J hf ef => by
    obtain ⟨H1, e1, J1, _, k1⟩ := cit_stop (d := d) J ef hf
    exact ⟨_, H1, x_cons (x_for (y_loc rfl) (iter_cit ef) (for_stop e1)) (x_ret (y_loc rfl)), J1, k1⟩
/-- the word end -/
theorem end_loop {m : Nat} {loc : List (Nat × V)} {H : MH} (hb : b + 8 ≤ f) (hloc : put loc 64 (V.str [101]) = [(57, .ref (b + 6)), (67, .str []), (68, .ref f), (64, .str [101])]) (I : LI b H [101, 110, 100] line []) (ef : H[f]? = some (.cit 301 (b + 6) true)) : ∃ (fr' : Fr) (H' : MH), forL (nextI (CI (d + 2))) (fun v fr h => (stT (.loc 64) v fr h).bind fun q => fSs GG (CI (d + 2)) 200 gtBody q.1 q.2) (m + 2) (.obj f) ⟨loc, []⟩ H = some (.nxt, fr', H') ∧ lk fr'.loc 67 = some (.str [101, 110, 100]) ∧ LI b H' [] line [] ∧ ∀ (i : Nat) o, Out8 b i → i ≠ f → H[i]? = some o → H'[i]? = some o := by
  obtain ⟨H1, e1, J1, k1⟩ := cit_next (d := d) I ef hb
  have f1 := k1 _ _ (.inr hb) ef
  obtain ⟨H2, e2, J2, k2⟩ := cit_next (d := d) J1 f1 hb
  have f2 := k2 _ _ (.inr hb) f1
  obtain ⟨H3, e3, J3, k3⟩ := cit_next (d := d) J2 f2 hb
  have f3 := k3 _ _ (.inr hb) f2
  obtain ⟨H4, e4, J4, f4, k4⟩ := cit_stop (d := d) J3 f3 hb
  have inner : forL (nextI (CI (d + 2))) (fun v fr h => (stT (.loc 64) v fr h).bind fun q => fSs GG (CI (d + 2)) 200 bBody q.1 q.2) 200 (.obj f) (frT b [101] f [101]) H1 = some (.nxt, frT b [101, 110, 100] f [100], H4) :=
    (for_go e2 (x_bind (x_cons (x_else (ws_at J2 rfl rfl rfl) (x_cons (x_skip (t_str (y_loc rfl) rfl rfl)) rfl)) (x_cons (aug_tok (tok := [101]) (c := 110) (ch := []) (by simp)) rfl)))).trans
    ((for_go e3 (x_bind (x_cons (x_else (ws_at J3 rfl rfl rfl) (x_cons (x_skip (t_str (y_loc rfl) rfl rfl)) rfl)) (x_cons (aug_tok (tok := [101, 110]) (c := 100) (ch := []) (by simp)) rfl)))).trans (for_stop e4))
  have body : fSs GG (CI (d + 2)) 200 gtBody ⟨[(57, .ref (b + 6)), (67, .str []), (68, .ref f), (64, .str [101])], []⟩ H1 = some (.nxt, frT b [101, 110, 100] f [100], H4) :=
    x_cons (x_skip (ws_at J1 rfl rfl rfl)) (x_cons (x_else (t_str (y_loc rfl) rfl rfl) (x_cons (x_skip (t_str (y_loc rfl) rfl rfl)) (x_cons (aug_tok (tok := []) (c := 101) (ch := []) (by simp)) (x_cons (x_for (y_loc rfl) (iter_cit f1) inner) rfl)))) rfl)
  exact ⟨_, H4, (for_go e1 (x_bind (by rw [hloc]; exact body))).trans (for_stop (cit_dead f4)), rfl, J4, fun i o hi ni e => k4 i o hi ni (k3 i o hi (k2 i o hi (k1 i o hi e)))⟩
theorem tok_end (I : LI b H [101, 110, 100] line []) : ∃ H' : MH, CI (d + 3) (.con 302) [.ref (b + 6)] H = some (.str [101, 110, 100], H') ∧ LI b H' [] line [] ∧ Keep8 b H H' :=
  tok_head I fun J hf ef => by
    obtain ⟨fr', H', e, e67, J', k⟩ := end_loop (d := d) (m := 198) (loc := [(57, .ref (b + 6)), (67, .str []), (68, .ref H.length)]) hf rfl J ef
    exact ⟨fr', H', x_cons (x_for (y_loc rfl) (iter_cit ef) e) (x_ret (y_loc e67)), J', k⟩
theorem tok_end2 (I : LI b H [10, 101, 110, 100] line []) : ∃ H' : MH, CI (d + 3) (.con 302) [.ref (b + 6)] H = some (.str [101, 110, 100], H') ∧ LI b H' [] (line + 1) [] ∧ Keep8 b H H' :=
  tok_head I fun J hf ef => by
    obtain ⟨H1, e1, J1, k1⟩ := cit_next (d := d) J ef hf
    obtain ⟨fr', H', e, e67, J', k⟩ := end_loop (d := d) (m := 197) (loc := [(57, .ref (b + 6)), (67, .str []), (68, .ref H.length), (64, .str [10])]) hf rfl J1 (k1 _ _ (.inr hf) ef)
    exact ⟨fr', H', x_cons (x_for (y_loc rfl) (iter_cit ef) ((for_cnt e1 (x_bind (x_cont (x_if (ws_at J1 rfl rfl rfl) (x_cont rfl))))).trans e)) (x_ret (y_loc e67)), J', fun i o hi ni q => k i o hi ni (k1 i o hi q)⟩
end
end Rz
end P24
section P25
open PySem PySem.W PySem.Calls PyProof.Rows
namespace Rz
set_option linter.unusedVariables false
set_option linter.unusedSimpArgs false
set_option maxRecDepth 100000
theorem new_obj {d k c init : Nat} {D : MDef} {vs : List V} {H H2 : MH} (h0 : DD.fn k = none) (h1 : DD.cls k = some (c, init)) (h2 : DD.fn init = some D) (hk : memN pureK k = false) (e : runDef GG (CI d) 200 D [] (.ref (H.length + 1) :: vs) (H ++ [.dict [], .inst c H.length]) = some (.none, H2)) : CI (d + 1) (.con k) vs H = some (.ref (H.length + 1), H2) := by
  rw [CI_succ]
  show (bif memN pureK k then _ else onSm (DD.fn k) (onL (DD.cls k) fun q => clsK GG DD (CI d) 200 q.1 q.2 vs H) (fun D => runDef GG (CI d) 200 D [] vs H)) = _
  rw [hk, cond_false, h0]
  show onL (DD.cls k) (fun q => clsK GG DD (CI d) 200 q.1 q.2 vs H) = _
  rw [onL_of h1]
  unfold clsK
  rw [onL_of h2]
  exact bnd_of e rfl
theorem lex_core {d L : Nat} {v : V} {H0 : MH} (a0 : H0[L]? = some (.dict [])) (a1 : H0[L + 1]? = some (.inst 0 L)) (hL : H0.length = L + 2) : ∃ H2 : MH, runDef GG (CI d) 200 d_netrclex___init__ [] [.ref (L + 1), v] H0 = some (.none, H2) ∧ H2.length = L + 3 ∧ (∀ (i : Nat) o, i < L → H0[i]? = some o → H2[i]? = some o) ∧
    H2[L]? = some (.dict [(62, .int 1), (61, v), (60, .str [10, 9, 13, 32]), (59, .ref (L + 2))]) ∧ H2[L + 1]? = some (.inst 0 L) ∧ H2[L + 2]? = some (.list []) := by
  have nL : L ≠ L + 1 := by (first | lia | omega)
  have b0 := set_at (x := .dict [(62, .int 1)]) a0
  have b1 := set_ne (i := L) (x := .dict [(62, .int 1)]) nL a1
  have c0 := set_at (x := .dict [(62, .int 1), (61, v)]) b0
  have c1 := set_ne (i := L) (x := .dict [(62, .int 1), (61, v)]) nL b1
  have d0 := set_at (x := .dict [(62, .int 1), (61, v), (60, .str [10, 9, 13, 32])]) c0
  have d1 := set_ne (i := L) (x := .dict [(62, .int 1), (61, v), (60, .str [10, 9, 13, 32])]) nL c1
  have hz : (((H0.set L (.dict [(62, .int 1)])).set L (.dict [(62, .int 1), (61, v)])).set L (.dict [(62, .int 1), (61, v), (60, .str [10, 9, 13, 32])])).length = L + 2 := by simp only [List.length_set]; exact hL
  have kp : ∀ (i : Nat) o, i < L → H0[i]? = some o → (((H0.set L (.dict [(62, .int 1)])).set L (.dict [(62, .int 1), (61, v)])).set L (.dict [(62, .int 1), (61, v), (60, .str [10, 9, 13, 32])]))[i]? = some o := fun i o hi e => set_ne (by (first | lia | omega)) (set_ne (by (first | lia | omega)) (set_ne (by (first | lia | omega)) e))
  have s1 : ∀ fr : Fr, fS GG (CI d) 200 (.setA (.loc 57) 62 (.lit (.int 1))) ⟨[(57, .ref (L + 1)), (58, v)], []⟩ H0 = some (.nxt, ⟨[(57, .ref (L + 1)), (58, v)], []⟩, H0.set L (.dict [(62, .int 1)])) := fun fr => x_setA rfl (y_loc rfl) (setA_at a1 a0 (by rfl) rfl rfl)
  have s2 : ∀ fr : Fr, fS GG (CI d) 200 (.setA (.loc 57) 61 (.loc 58)) ⟨[(57, .ref (L + 1)), (58, v)], []⟩ (H0.set L (.dict [(62, .int 1)])) = some (.nxt, ⟨[(57, .ref (L + 1)), (58, v)], []⟩, (H0.set L (.dict [(62, .int 1)])).set L (.dict [(62, .int 1), (61, v)])) := fun fr => x_setA (y_loc rfl) (y_loc rfl) (setA_at b1 b0 (by rfl) rfl rfl)
  have s3 : ∀ fr : Fr, fS GG (CI d) 200 (.setA (.loc 57) 60 (.lit (.str [10, 9, 13, 32]))) ⟨[(57, .ref (L + 1)), (58, v)], []⟩ ((H0.set L (.dict [(62, .int 1)])).set L (.dict [(62, .int 1), (61, v)])) = some (.nxt, ⟨[(57, .ref (L + 1)), (58, v)], []⟩, ((H0.set L (.dict [(62, .int 1)])).set L (.dict [(62, .int 1), (61, v)])).set L (.dict [(62, .int 1), (61, v), (60, .str [10, 9, 13, 32])])) := fun fr => x_setA rfl (y_loc rfl) (setA_at c1 c0 (by rfl) rfl rfl)
  generalize ((H0.set L (.dict [(62, .int 1)])).set L (.dict [(62, .int 1), (61, v)])).set L (.dict [(62, .int 1), (61, v), (60, .str [10, 9, 13, 32])]) = H3 at *
  have s4 : ∀ fr : Fr, fS GG (CI d) 200 (.setA (.loc 57) 59 (.lst (.nil))) ⟨[(57, .ref (L + 1)), (58, v)], []⟩ H3 = some (.nxt, ⟨[(57, .ref (L + 1)), (58, v)], []⟩, _) := fun fr => x_setA (y_lst y_nil (Nat.le_of_ble_eq_true rfl)) (y_loc rfl) (setA_at (app_at d1) (app_at d0) (by rfl) rfl rfl)
  refine ⟨(H3 ++ [AO.list []]).set L (.dict [(62, .int 1), (61, v), (60, .str [10, 9, 13, 32]), (59, .ref H3.length)]), fDef_nxt0 (fr2 := ⟨[(57, .ref (L + 1)), (58, v)], []⟩) rfl rfl rfl (x_cons (s1 ⟨[], []⟩) (x_cons (s2 ⟨[], []⟩) (x_cons (s3 ⟨[], []⟩) (x_cons (s4 ⟨[], []⟩) rfl)))), ?_, fun i o hi e => set_ne (by (first | lia | omega)) (app_at (kp i o hi e)), ?_, set_ne (by (first | lia | omega)) (app_at d1), set_ne (by (first | lia | omega)) ?_⟩
  · rw [List.length_set, List.length_append, hz]; rfl
  · rw [set_at (app_at d0), hz]
  · rw [← hz]; exact app_new
theorem new_lex {d : Nat} {v : V} (H : MH) : ∃ H2 : MH, CI (d + 1) (.con 18) [v] H = some (.ref (H.length + 1), H2) ∧ H2.length = H.length + 3 ∧ (∀ (i : Nat) o, H[i]? = some o → H2[i]? = some o) ∧
    H2[H.length]? = some (.dict [(62, .int 1), (61, v), (60, .str [10, 9, 13, 32]), (59, .ref (H.length + 2))]) ∧ H2[H.length + 1]? = some (.inst 0 H.length) ∧ H2[H.length + 2]? = some (.list []) := by
  obtain ⟨H2, e, z, k, r⟩ := lex_core (d := d) (v := v) (L := H.length) (H0 := H ++ [.dict [], .inst 0 H.length]) (by rw [List.getElem?_append_right (Nat.le_refl _), Nat.sub_self]; rfl) (by rw [List.getElem?_append_right (by (first | lia | omega)), Nat.add_sub_cancel_left]; rfl) (by simp)
  exact ⟨H2, new_obj (by rfl) (by rfl) (by rfl) (by rfl) e, z, fun i o q => k i o (at_lt q) (app_at q), r⟩
theorem sgs_eq : ∀ cs : List Nat, (cs.map fun c => V.str [c]).reverse = sgs cs
  | [] => rfl
  | c :: r => by rw [List.map_cons, List.reverse_cons, sgs_eq r, sgs]
theorem law_lexer {d : Nat} {text : List Nat} (hok : text.all (Nat.ble · 127) = true) (hl : text.length ≤ 1000) (H : MH) : ∃ H' : MH, CI (d + 2) (.con 25) [.str text] H = some (.ref (H.length + 6), H') ∧ LI H.length H' text 1 [] ∧ ∀ (i : Nat) o, H[i]? = some o → H'[i]? = some o := by
  rw [CI_fn (D := d_law_lexer) (by rfl) (by rfl)]
  have klt : ∀ (i : Nat) o, H[i]? = some o → i < H.length := fun i o e => at_lt e
  have z0 : (H ++ [AO.cell none]).length = H.length + 1 := by simp
  have c0 : (H ++ [AO.cell none])[H.length]? = some (.cell none) := app_new
  have k0 : ∀ (i : Nat) o, H[i]? = some o → (H ++ [AO.cell none])[i]? = some o := fun i o e => app_at e
  have st : stTs d_law_lexer.ps [V.str text] ⟨[], zipN d_law_lexer.cells H.length ++ d_law_lexer.fv.zip []⟩ (H ++ d_law_lexer.cells.map fun _ => .cell none) = some (⟨[(97, .str text)], [(98, H.length)]⟩, H ++ [AO.cell none]) := rfl
  generalize H ++ [AO.cell none] = H0 at *
  generalize hb : H.length = b at *
  -- the list of signs
  have p1 : primV .list [.str text] H0 = some (.ref H0.length, H0 ++ [.list (text.map fun c => .str [c])]) := by
    show (if text.length < 16777217 then some (V.ref H0.length, H0 ++ [AO.list (text.map fun c => .str [c])]) else none) = _
    rw [if_pos (by (first | lia | omega))]
  have g0 := app_at (L := [AO.list (text.map fun c => .str [c])]) c0
  have g1 : (H0 ++ [AO.list (text.map fun c => .str [c])])[H0.length]? = some (.list (text.map fun c => .str [c])) := app_new
  have h0 := set_at (x := .cell (some (.ref H0.length))) g0
  have h1 := set_ne (i := b) (x := .cell (some (.ref H0.length))) (by (first | lia | omega)) g1
  have p2 : biM 3 (.ref H0.length) [] ((H0 ++ [AO.list (text.map fun c => .str [c])]).set b (.cell (some (.ref H0.length)))) = some (.none, _) := m_reverse (listAt_of h1) (by rw [List.length_map]; (first | lia | omega))
  rw [sgs_eq] at p2
  have i0 := set_ne (x := .list (sgs text)) (show H0.length ≠ b by (first | lia | omega)) h0
  have i1 := set_at (x := .list (sgs text)) h1
  have zz : (((H0 ++ [AO.list (text.map fun c => .str [c])]).set b (.cell (some (.ref H0.length)))).set H0.length (.list (sgs text))).length = b + 2 := by simp only [List.length_set, List.length_append, z0]; rfl
  have kk : ∀ (i : Nat) o, H[i]? = some o → (((H0 ++ [AO.list (text.map fun c => .str [c])]).set b (.cell (some (.ref H0.length)))).set H0.length (.list (sgs text)))[i]? = some o := fun i o e => by
    have := klt i o e
    exact set_ne (by (first | lia | omega)) (set_ne (by (first | lia | omega)) (app_at (k0 i o e)))
  have s0 : ∀ fr : Fr, fS GG (CI (d + 1)) 200 (.asg (.cel 98) (.prim .list (.cons (.loc 97) (.nil)))) ⟨[(97, .str text)], [(98, b)]⟩ H0 = some (.nxt, ⟨[(97, .str text)], [(98, b)]⟩, _) := fun fr => x_asgc (y_prim (y_cons (y_loc rfl) y_nil) p1) rfl g0
  have s1 : ∀ fr : Fr, fS GG (CI (d + 1)) 200 (.ex (.mth (.cel 98) 3 (.nil))) ⟨[(97, .str text)], [(98, b)]⟩ ((H0 ++ [AO.list (text.map fun c => .str [c])]).set b (.cell (some (.ref H0.length)))) = some (.nxt, ⟨[(97, .str text)], [(98, b)]⟩, _) := fun fr => x_ex (y_bi (y_cel rfl h0) (callee_list h1) y_nil p2)
  generalize ((H0 ++ [AO.list (text.map fun c => .str [c])]).set b (.cell (some (.ref H0.length)))).set H0.length (.list (sgs text)) = H1 at *
  rw [z0] at i0 i1
  -- the stream
  obtain ⟨H2, e2, z2, k2, a1, a2, a3⟩ := new_lex (d := d) (v := .none) H1
  rw [zz] at e2 z2 a1 a2 a3
  have s3 : setAV GG (.ref (b + 2 + 1)) 65 (.clo 502 [b]) H2 = some (H2.set (b + 2) _) := setA_at a2 a1 (by rfl) rfl rfl
  have a1' := set_at (x := .dict [(62, .int 1), (61, .none), (60, .str [10, 9, 13, 32]), (59, .ref (b + 2 + 2)), (65, .clo 502 [b])]) a1
  have a2' := set_ne (i := b + 2) (x := .dict [(62, .int 1), (61, .none), (60, .str [10, 9, 13, 32]), (59, .ref (b + 2 + 2)), (65, .clo 502 [b])]) (by (first | lia | omega)) a2
  have z3 : (H2.set (b + 2) (.dict [(62, .int 1), (61, .none), (60, .str [10, 9, 13, 32]), (59, .ref (b + 2 + 2)), (65, .clo 502 [b])])).length = b + 5 := by rw [List.length_set, z2]
  have k3 : ∀ (i : Nat) o, i ≠ b + 2 → H1[i]? = some o → (H2.set (b + 2) (.dict [(62, .int 1), (61, .none), (60, .str [10, 9, 13, 32]), (59, .ref (b + 2 + 2)), (65, .clo 502 [b])]))[i]? = some o := fun i o ni e => set_ne (Ne.symm ni) (k2 i o e)
  have s3' : ∀ fr : Fr, fS GG (CI (d + 1)) 200 (.setA (.loc 99) 65 (.lam 502 [98])) ⟨[(97, .str text), (99, .ref (b + 2 + 1))], [(98, b)]⟩ H2 = some (.nxt, ⟨[(97, .str text), (99, .ref (b + 2 + 1))], [(98, b)]⟩, _) := fun fr => x_setA (v := .clo 502 [b]) (rfl) (y_loc rfl) s3
  change ∀ fr : Fr, fS GG (CI (d + 1)) 200 (.setA (.loc 99) 65 (.lam 502 [98])) ⟨[(97, .str text), (99, .ref (b + 2 + 1))], [(98, b)]⟩ H2 = some (.nxt, ⟨[(97, .str text), (99, .ref (b + 2 + 1))], [(98, b)]⟩, H2.set (b + 2) (.dict [(62, .int 1), (61, .none), (60, .str [10, 9, 13, 32]), (59, .ref (b + 2 + 2)), (65, .clo 502 [b])])) at s3'
  generalize H2.set (b + 2) (.dict [(62, .int 1), (61, .none), (60, .str [10, 9, 13, 32]), (59, .ref (b + 2 + 2)), (65, .clo 502 [b])]) = H3 at *
  -- the lexer
  obtain ⟨H4, e4, z4, k4, b1, b2, b3⟩ := new_lex (d := d) (v := .ref (b + 2 + 1)) H3
  rw [z3] at e4 b1 b2 b3
  refine ⟨H4, fDef_ret rfl (hb ▸ st) (x_cons (s0 ⟨[], []⟩) (x_cons (s1 ⟨[], []⟩) (x_cons (x_asg (y_call (y_glb rfl) (y_cons rfl y_nil) e2)) (x_cons (s3' ⟨[], []⟩) (x_ret (y_call (y_glb rfl) (y_cons (y_loc rfl) y_nil) e4)))))), ?_, fun i o e => ?_⟩
  · exact ⟨k4 _ _ (k3 _ _ (by (first | lia | omega)) i0), k4 _ _ (k3 _ _ (by (first | lia | omega)) i1), k4 _ _ a1', k4 _ _ a2', b1, b2, b3, hok, hl⟩
  · have := klt i o e
    exact k4 _ _ (k3 _ _ (by (first | lia | omega)) (kk i o e))
theorem tok_push {d b : Nat} {H : MH} {chars : List Nat} {line : Int} {pend : List (List Nat)} {w : List Nat} (I : LI b H chars line pend) (hp : pend.length ≤ 1000) : ∃ H' : MH, CI (d + 1) (.con 303) [.ref (b + 6), .str w] H = some (.none, H') ∧ LI b H' chars line (pend ++ [w]) ∧ Keep8 b H H' := by
  have hap := m_append (v := .str w) (listAt_of I.pb) (by rw [List.length_map]; (first | lia | omega))
  refine ⟨_, (CI_fn (by rfl) (by rfl)).trans (fDef_nxt0 (D := d_netrclex_push_token) rfl rfl rfl (x_cons (x_ex (y_bi (y_att (y_loc rfl) (attr_at I.l I.dl rfl (by rfl))) (callee_list I.pb) (y_cons (y_loc rfl) y_nil) hap)) rfl)), ?_, fun i o hi e => set_ne (by unfold Out8 at hi; (first | lia | omega)) e⟩
  exact ⟨set_ne (by (first | lia | omega)) I.c, set_ne (by (first | lia | omega)) I.sg, set_ne (by (first | lia | omega)) I.ds, set_ne (by (first | lia | omega)) I.s, set_ne (by (first | lia | omega)) I.dl, set_ne (by (first | lia | omega)) I.l, by rw [set_at I.pb, List.map_append]; rfl, I.ok, I.len⟩
end Rz
end P25
section P26
open PySem PySem.W PySem.Calls PyProof.Rows
namespace Rz
set_option linter.unusedVariables false
set_option linter.unusedSimpArgs false
set_option maxRecDepth 100000
/-! the search, by plain functions -/
noncomputable def memW (x : List Nat) : List (List Nat) → Bool
  | [] => false
  | y :: r => match natsEq y x with
    | true => true
    | false => memW x r
noncomputable abbrev WW := List (List Nat)
noncomputable def addS (word o : List Nat) (ih : WW → WW → Option (WW × WW)) (met pend : WW) : Option (WW × WW) := match memW o met with
  | true => ih met pend
  | false => match levOK word o && Nat.ble met.length 500 && Nat.ble pend.length 500 with
    | true => ih (met ++ [o]) (pend ++ [o])
    | false => none
noncomputable def addNew (word : List Nat) (os : WW) : WW → WW → Option (WW × WW) := List.rec (fun met pend => some (met, pend)) (fun o _ ih => addS word o ih) os
noncomputable def goRun (k : List Nat → WW → WW → WW → Option (WW × WW)) (came : WW) (r : Option (WW × WW)) : Option (WW × WW) := match r with
  | some (met, []) => some (came, met)
  | some (met, w :: pend) => match Nat.ble pend.length 500 with
    | true => k w came met pend
    | false => none
  | none => none
noncomputable def runS (ih : List Nat → WW → WW → WW → Option (WW × WW)) (word : List Nat) (came met pend : WW) : Option (WW × WW) := match !natsEq word [101, 110, 100] && Nat.ble (came.length + 1) 20 && fit (changedF word) && Nat.ble word.length 1000 with
  | true => goRun ih (came ++ [word]) (addNew word (changedF word) met pend)
  | false => none
noncomputable def runF (m : Nat) : List Nat → WW → WW → WW → Option (WW × WW) := Nat.rec (fun _ _ _ _ => none) (fun _ ih => runS ih) m
theorem only_map : ∀ ms : WW, onlyStr (ms.map .str) = true
  | [] => rfl
  | _ :: r => only_map r
theorem in_map (x : List Nat) : ∀ ms : WW, inStr x (ms.map .str) = memW x ms
  | [] => rfl
  | y :: r => by
    show (match natsEq y x with | true => true | false => inStr x (r.map .str)) = _
    rw [in_map x r]; rfl
theorem notin_at {h : MH} {i : Nat} {ms : WW} {x : List Nat} {q : Bool} (e : h[i]? = some (.list (ms.map .str))) (hq : memW x ms = q) : cmpV .NotIn (.str x) (.ref i) h = some (!q) :=
  (congrArg (Option.map (!·)) ((onL_of (listAt_of e)).trans ((if_pos (only_map ms)).trans (by rw [in_map, hq])))).trans rfl
noncomputable def whBody : Ss := forBody (nthS 12 lawRest)
noncomputable def adBody : Ss := forBody (nthS 1 whBody)
theorem call_push {b : Nat} {H : MH} {chars : List Nat} {line : Int} {pend : WW} {o : List Nat} {fr : Fr} (I : LI b H chars line pend) (hp : pend.length ≤ 1000) (e130 : lk fr.loc 130 = some (.ref (b + 6))) (e131 : lk fr.loc 131 = some (.str o)) :
    ∃ H' : MH, fS GG (CI 30) 200 (.ex (.mth (.loc 130) 70 (.cons (.loc 131) (.nil)))) fr H = some (.nxt, fr, H') ∧ LI b H' chars line (pend ++ [o]) ∧ Keep8 b H H' := by
  obtain ⟨H', e, J, k⟩ := tok_push (d := 29) (w := o) I hp
  exact ⟨H', x_ex (y_val (y_loc e130) (meth_at I.l I.dl rfl rfl (by rfl)) (y_cons (y_loc e131) y_nil) e), J, k⟩
theorem LI.set {b i : Nat} {H : MH} {o : AO} {chars : List Nat} {line : Int} {pend : WW} (I : LI b H chars line pend) (hi : Out8 b i) : LI b (H.set i o) chars line pend := by
  unfold Out8 at hi
  exact ⟨set_ne (by (first | lia | omega)) I.c, set_ne (by (first | lia | omega)) I.sg, set_ne (by (first | lia | omega)) I.ds, set_ne (by (first | lia | omega)) I.s, set_ne (by (first | lia | omega)) I.dl, set_ne (by (first | lia | omega)) I.l, set_ne (by (first | lia | omega)) I.pb, I.ok, I.len⟩
theorem add_loop {b mt il : Nat} {word : List Nat} {os : WW} {chars : List Nat} {line : Int} {met' pend' : WW} (hmt : Out8 b mt) (hil : Out8 b il) (nil : il ≠ mt) : ∀ (k j m : Nat) (fr : Fr) (H : MH) (met pend : WW), j + k = os.length → k < m → addNew word (os.drop j) met pend = some (met', pend') →
    LI b H chars line pend → H[mt]? = some (.list (met.map .str)) → H[il]? = some (.list (os.map .str)) → lk fr.loc 100 = some (.str word) → lk fr.loc 129 = some (.ref mt) → lk fr.loc 130 = some (.ref (b + 6)) →
    ∃ (fr' : Fr) (H' : MH), forL (nextI (CI 30)) (fun v fr h => (stT (.loc 131) v fr h).bind fun q => fSs GG (CI 30) 200 adBody q.1 q.2) m (.lst il j) fr H = some (.nxt, fr', H') ∧ LI b H' chars line pend' ∧ H'[mt]? = some (.list (met'.map .str)) ∧ fr'.cel = fr.cel ∧ (∀ y v, y ≠ 131 → lk fr.loc y = some v → lk fr'.loc y = some v) ∧
      (∀ (i : Nat) o, Out8 b i → i ≠ mt → H[i]? = some o → H'[i]? = some o) := by
  intro k
  induction k with
  | zero =>
    intro j m fr H met pend hj hm e I hmet hos e100 e129 e130
    obtain ⟨m, rfl⟩ := fuel hm
    rw [List.drop_of_length_le (by (first | lia | omega))] at e
    have e : some (met, pend) = some (met', pend') := e
    cases e
    exact ⟨fr, H, for_stop (lst_end hos (List.getElem?_eq_none (by rw [List.length_map]; (first | lia | omega)))), I, hmet, rfl, fun y v _ e => e, fun i o _ _ e => e⟩
  | succ k ih =>
    intro j m fr H met pend hj hm e I hmet hos e100 e129 e130
    obtain ⟨m, rfl⟩ := fuel hm
    have jw : j < os.length := by (first | lia | omega)
    have gw : (os.map V.str)[j]? = some (.str os[j]) := by rw [List.getElem?_map, List.getElem?_eq_getElem jw]; rfl
    rw [List.drop_eq_getElem_cons jw] at e
    change addS word os[j] (addNew word (os.drop (j + 1))) met pend = some (met', pend') at e
    generalize os[j] = o at *
    unfold addS at e
    split at e
    · rename_i hq
      obtain ⟨fr', H', g1, g2, g3, g4, g5, g6⟩ := ih (j + 1) m ⟨put fr.loc 131 (.str o), fr.cel⟩ H met pend (by (first | lia | omega)) (by (first | lia | omega)) e I hmet hos (lk_ne rfl e100) (lk_ne rfl e129) (lk_ne rfl e130)
      exact ⟨fr', H', (for_go (lst_next hos gw) (x_bind (x_cons (x_skip (y_tcmp (y_loc lk_eq) (y_loc (lk_ne rfl e129)) (notin_at hmet hq))) rfl))).trans g1, g2, g3, g4, fun y v ny e => g5 y v ny (by show lk (put fr.loc 131 _) y = _; rw [lk_put, if_neg ny]; exact e), g6⟩
    · rename_i hq
      split at e
      · rename_i hk
        simp only [Bool.and_eq_true] at hk
        have hm5 := Nat.le_of_ble_eq_true hk.1.2
        have hp5 := Nat.le_of_ble_eq_true hk.2
        have hap := m_append (v := .str o) (listAt_of hmet) (by rw [List.length_map]; (first | lia | omega))
        have I1 : LI b (H.set mt (.list (met.map .str ++ [.str o]))) chars line pend := I.set hmt
        obtain ⟨H2, p1, I2, k2⟩ := call_push (fr := ⟨put fr.loc 131 (.str o), fr.cel⟩) I1 (by (first | lia | omega)) (lk_ne rfl e130) lk_eq
        have hmet2 : H2[mt]? = some (.list ((met ++ [o]).map .str)) := by rw [k2 _ _ hmt (set_at hmet), List.map_append]; rfl
        obtain ⟨fr', H', g1, g2, g3, g4, g5, g6⟩ := ih (j + 1) m ⟨put fr.loc 131 (.str o), fr.cel⟩ H2 (met ++ [o]) (pend ++ [o]) (by (first | lia | omega)) (by (first | lia | omega)) e I2 hmet2 (k2 _ _ hil (set_ne (Ne.symm nil) hos)) (lk_ne rfl e100) (lk_ne rfl e129) (lk_ne rfl e130)
        refine ⟨fr', H', (for_go (lst_next hos gw) (x_bind (x_cons (x_if (y_tcmp (y_loc lk_eq) (y_loc (lk_ne rfl e129)) (notin_at hmet hq)) (x_cons (x_skip (t_ne_f (y_call (y_glb rfl) (y_cons (y_loc (lk_ne rfl e100)) (y_cons (y_loc lk_eq) (y_cons rfl y_nil))) (lev hk.1.1 H)) rfl rfl)) (x_cons (x_ex (y_bi (y_loc (lk_ne rfl e129)) (callee_list hmet) (y_cons (y_loc lk_eq) y_nil) hap)) (x_cons p1 rfl)))) rfl))).trans g1, g2, g3, g4, fun y v ny e => g5 y v ny (by show lk (put fr.loc 131 _) y = _; rw [lk_put, if_neg ny]; exact e), fun i o' hi ni e => g6 i o' hi ni (k2 i o' hi (set_ne (Ne.symm ni) e))⟩
      · cases e
theorem call_tok {b : Nat} {H : MH} {fr : Fr} {r : Option (V × MH)} {chars : List Nat} {line : Int} {pend : WW} (I : LI b H chars line pend) (e130 : lk fr.loc 130 = some (.ref (b + 6))) (e : CI 30 (.con 302) [.ref (b + 6)] H = r) : fE GG (CI 30) 200 (.mth (.loc 130) 69 (.nil)) fr H = r :=
  y_val (y_loc e130) (meth_at I.l I.dl rfl rfl (by rfl)) y_nil e
theorem t_and2 {G : Gl} {C : Call} {n : Nat} {fr : Fr} {h : MH} {x y : T} {p q : Bool} (hx : fT G C n x fr h = some (p, h)) (hy : fT G C n y fr h = some (q, h)) : fT G C n (.bop .And (.cons x (.cons y .nil))) fr h = some (p && q, h) := by
  rw [f_tbop, f_aand, hx, Option.bind_some]
  cases p with
  | false => rfl
  | true =>
    show fA G C n (.cons y .nil) .And fr h = _
    rw [f_aand, hy]; cases q <;> rfl
theorem wh_loop {b mt c i3 : Nat} {chars : List Nat} {line : Int} {came' met' : WW} (hmt : Out8 b mt) (hcc : Out8 b c) (h3 : Out8 b i3) (ncm : c ≠ mt) (n3c : i3 ≠ c) (n3m : i3 ≠ mt) (hend : (chars = [101, 110, 100] ∧ line = 2) ∨ (chars = [10, 101, 110, 100] ∧ line = 1)) : ∀ (k m : Nat) (fr : Fr) (H : MH) (word : List Nat) (came met pend : WW), k < m → came.length ≤ 100 → pend.length ≤ 1000 → runF k word came met pend = some (came', met') →
    LI b H chars line pend → H[i3]? = some (.cell (some (.ref c))) → H[c]? = some (.list (came.map .str)) → H[mt]? = some (.list (met.map .str)) → lk fr.cel 110 = some i3 → lk fr.loc 100 = some (.str word) → lk fr.loc 129 = some (.ref mt) → lk fr.loc 130 = some (.ref (b + 6)) →
    ∃ (fr' : Fr) (H' : MH), whlL (fT GG (CI 30) 200 (.bop .And (.cons (.cmp .NotEq (.loc 100) (.lit (.str [101, 110, 100]))) (.cons (.cmp .Lt (.prim .len (.cons (.cel 110) (.nil))) (.lit (.int 20))) (.nil))))) (fSs GG (CI 30) 200 whBody) m fr H = some (.nxt, fr', H') ∧ lk fr'.loc 100 = some (.str [101, 110, 100]) ∧ LI b H' [] 2 [] ∧ H'[c]? = some (.list (came'.map .str)) ∧ H'[mt]? = some (.list (met'.map .str)) ∧ fr'.cel = fr.cel ∧ (∀ y v, y ≠ 131 → y ≠ 100 → lk fr.loc y = some v → lk fr'.loc y = some v) ∧
      (∀ (i : Nat) o, Out8 b i → i ≠ mt → i ≠ c → H[i]? = some o → H'[i]? = some o) := by
  intro k
  induction k with
  | zero => intro m fr H word came met pend hm hl hp e; exact absurd (show none = some (came', met') from e) nofun
  | succ k ih =>
    intro m fr H word came met pend hm hl hp e I hi3 hc hmet hcel e100 e129 e130
    obtain ⟨m, rfl⟩ := fuel hm
    change runS (runF k) word came met pend = some (came', met') at e
    unfold runS at e
    split at e
    · rename_i hk
      simp only [Bool.and_eq_true, Bool.not_eq_true'] at hk
      obtain ⟨⟨⟨k1, k2⟩, k3⟩, k4⟩ := hk
      have k2 := Nat.le_of_ble_eq_true k2
      have k4 := Nat.le_of_ble_eq_true k4
      have test : ∀ (w : List Nat) (q : Bool) (n : Nat) {fr : Fr} {h : MH} {cm : WW}, natsEq w [101, 110, 100] = q → lk fr.loc 100 = some (.str w) → lk fr.cel 110 = some i3 → h[i3]? = some (.cell (some (.ref c))) → h[c]? = some (.list (cm.map .str)) → cm.length ≤ 100 → fT GG (CI 30) 200 (.bop .And (.cons (.cmp .NotEq (.loc 100) (.lit (.str [101, 110, 100]))) (.cons (.cmp .Lt (.prim .len (.cons (.cel 110) (.nil))) (.lit (.int 20))) (.nil)))) fr h = some (!q && decide ((cm.length : Int) < 20), h) := fun w q n fr h cm hq e1 e2 e3 e4 e5 =>
        t_and2 (y_tcmp (y_loc e1) rfl (show some (!natsEq w [101, 110, 100]) = some (!q) by rw [hq])) (y_tcmp (y_prim (y_cons (y_cel e2 e3) y_nil) (len_at e4 (by rw [List.length_map]; (first | lia | omega)))) rfl (by rw [List.length_map]; rfl))
      have t1 := test word false 0 k1 e100 hcel hi3 hc hl
      rw [decide_eq_true (show (came.length : Int) < 20 by (first | lia | omega))] at t1
      -- the word is kept
      have hap := m_append (v := .str word) (listAt_of hc) (by rw [List.length_map]; (first | lia | omega))
      have I1 : LI b (H.set c (.list (came.map .str ++ [.str word]))) chars line pend := I.set hcc
      have hc1 : (H.set c (.list (came.map .str ++ [.str word])))[c]? = some (.list ((came ++ [word]).map .str)) := by rw [set_at hc, List.map_append]; rfl
      have hm1 := set_ne (i := c) (x := .list (came.map .str ++ [.str word])) ncm hmet
      have hi1 := set_ne (i := c) (x := .list (came.map .str ++ [.str word])) (Ne.symm n3c) hi3
      have kp1 : ∀ (i : Nat) o, i ≠ c → H[i]? = some o → (H.set c (.list (came.map .str ++ [.str word])))[i]? = some o := fun i o ni e => set_ne (Ne.symm ni) e
      generalize H.set c (.list (came.map .str ++ [.str word])) = H1 at *
      -- its changes
      have c1 := changed (d := 29) k4 (atoms_fit k3) H1
      have I2 := I1.app (L := [AO.list ((changedF word).map .str)])
      have hil : Out8 b H1.length := .inr (at_lt I1.pb)
      have hfl : (changedF word).length ≤ 150 := by
        unfold fit at k3
        rw [Bool.and_eq_true] at k3
        exact Nat.le_of_ble_eq_true k3.1
      cases hadd : addNew word (changedF word) met pend with
      | none => rw [hadd] at e; cases e
      | some p =>
      obtain ⟨met1, pend1⟩ := p
      rw [hadd] at e
      obtain ⟨fr2, H2, a1, a2, a3, a4, a5, a6⟩ := add_loop (os := changedF word) hmt hil (Nat.ne_of_gt (at_lt hm1)) (changedF word).length 0 200 fr (H1 ++ [AO.list ((changedF word).map .str)]) met pend (by (first | lia | omega)) (by (first | lia | omega)) hadd I2 (app_at hm1) app_new e100 e129 e130
      have f129 := a5 129 _ (by decide) e129
      have f130 := a5 130 _ (by decide) e130
      have hc2 := a6 c _ hcc ncm (app_at hc1)
      have hi2 := a6 i3 _ h3 n3m (app_at hi1)
      have kp2 : ∀ (i : Nat) o, Out8 b i → i ≠ mt → i ≠ c → H[i]? = some o → H2[i]? = some o := fun i o hi n1 n2 e => a6 i o hi n1 (app_at (kp1 i o n2 e))
      have step : ∀ {w : List Nat} {H3 : MH}, CI 30 (.con 302) [.ref (b + 6)] H2 = some (.str w, H3) → fSs GG (CI 30) 200 whBody fr H = some (.nxt, ⟨put fr2.loc 100 (.str w), fr2.cel⟩, H3) := fun ec =>
        x_cons (x_ex (y_bi (y_cel hcel hi3) (callee_list hc) (y_cons (y_loc e100) y_nil) hap)) (x_cons (x_for (y_call (y_glb rfl) (y_cons (y_loc e100) y_nil) c1) (iter_list app_new) a1) (x_cons (x_asg (call_tok a2 f130 ec)) rfl))
      unfold goRun at e
      split at e
      · rename_i hq
        cases hq
        cases e
        -- the text's end
        have fin : ∃ H3 : MH, CI 30 (.con 302) [.ref (b + 6)] H2 = some (.str [101, 110, 100], H3) ∧ LI b H3 [] 2 [] ∧ Keep8 b H2 H3 := by
          rcases hend with ⟨rfl, rfl⟩ | ⟨rfl, rfl⟩
          · exact tok_end (d := 27) a2
          · exact tok_end2 (d := 27) a2
        obtain ⟨H3, e3, I3, k3'⟩ := fin
        have t2 := test [101, 110, 100] true 0 (fr := ⟨put fr2.loc 100 (.str [101, 110, 100]), fr2.cel⟩) (h := H3) rfl lk_eq (by show lk fr2.cel 110 = _; rw [a4]; exact hcel) (k3' _ _ h3 hi2) (k3' _ _ hcc hc2) (by simp; (first | lia | omega))
        obtain ⟨m, rfl⟩ := fuel (Nat.lt_of_succ_lt_succ hm)
        exact ⟨⟨put fr2.loc 100 (.str [101, 110, 100]), fr2.cel⟩, H3, (whl_go t1 (step e3)).trans (whl_stop t2), lk_eq, I3, k3' _ _ hcc hc2, k3' _ _ hmt a3, a4, fun y v n1 n2 e => by show lk (put fr2.loc 100 _) y = _; rw [lk_put, if_neg n2]; exact a5 y v n1 e, fun i o hi n1 n2 e => k3' i o hi (kp2 i o hi n1 n2 e)⟩
      · rename_i hq
        cases hq
        split at e
        · rename_i hp5
          have hp5 := Nat.le_of_ble_eq_true hp5
          obtain ⟨H3, e3, I3, k3'⟩ := tok_pend (d := 27) a2 (by (first | lia | omega))
          obtain ⟨fr', H', g1, g2, g3, g4, g5, g6, g7, g8⟩ := ih m ⟨put fr2.loc 100 (.str _), fr2.cel⟩ H3 _ _ _ _ (by (first | lia | omega)) (by simp; (first | lia | omega)) (by (first | lia | omega)) e I3 (k3' _ _ h3 hi2) (k3' _ _ hcc hc2) (k3' _ _ hmt a3) (by show lk fr2.cel 110 = _; rw [a4]; exact hcel) lk_eq (lk_ne rfl f129) (lk_ne rfl f130)
          exact ⟨fr', H', (whl_go t1 (step e3)).trans g1, g2, g3, g4, g5, g6.trans a4, fun y v n1 n2 e => g7 y v n1 n2 (by show lk (put fr2.loc 100 _) y = _; rw [lk_put, if_neg n2]; exact a5 y v n1 e), fun i o hi n1 n2 e => g8 i o hi n1 n2 (k3' i o hi (kp2 i o hi n1 n2 e))⟩
        · cases e
      · cases e
    · cases e
end Rz
end P26
section P27
open PySem PySem.W PySem.Calls PyProof.Rows
namespace Rz
set_option linter.unusedVariables false
set_option linter.unusedSimpArgs false
set_option maxRecDepth 100000
section
variable {G : Gl} {C : Call} {n : Nat} {fr : Fr} {h h1 : MH} {x y z : T}
theorem t_or3' (hx : fT G C n x fr h = some (false, h)) (hy : fT G C n y fr h = some (false, h)) (hz : fT G C n z fr h = some (false, h1)) : fT G C n (.bop .Or (.cons x (.cons y (.cons z .nil)))) fr h = some (false, h1) := by
  rw [f_tbop, f_aor, hx, Option.bind_some]
  show fA G C n (.cons y (.cons z .nil)) .Or fr h = _
  rw [f_aor, hy, Option.bind_some]
  show fA G C n (.cons z .nil) .Or fr h = _
  rw [f_aor, hz]; rfl
theorem t_or2' {h2 : MH} (hx : fT G C n x fr h = some (false, h1)) (hy : fT G C n y fr h1 = some (false, h2)) : fT G C n (.bop .Or (.cons x (.cons y .nil))) fr h = some (false, h2) := by
  rw [f_tbop, f_aor, hx, Option.bind_some]
  show fA G C n (.cons y .nil) .Or fr h1 = _
  rw [f_aor, hy]; rfl
theorem strsOf_map : ∀ ss : WW, strsOf (ss.map .str) = some ss
  | [] => rfl
  | s :: r => (onL_of (strsOf_map r)).trans rfl
theorem sorted_at {i : Nat} {ss : WW} (e : h[i]? = some (.list (ss.map .str))) (hs : ss.length < 64) : primV .sorted [.ref i] h = some (.ref h.length, h ++ [.list ((sortS ss).map .str)]) := by
  show onL (listAt h i) (fun vs => onL (strsOf vs) fun ss => if ss.length < 64 then some (V.ref h.length, h ++ [AO.list ((sortS ss).map .str)]) else none) = _
  rw [listAt_of e]; show onL (strsOf (ss.map .str)) _ = _; rw [strsOf_map]; exact if_pos hs
theorem ne_list {i j : Nat} {a b : List V} (hi : h[i]? = some (.list a)) (hj : h[j]? = some (.list b)) (ha : allAtoms a = true) (hb : allAtoms b = true) (e : eqAtoms a b = true) : cmpV .NotEq (.ref i) (.ref j) h = some false :=
  (congrArg (Option.map (!·)) (eqL_at (listAt_of hi) (listAt_of hj) ha hb)).trans (by rw [e]; rfl)
theorem slcL_to {i : Nat} {vs : List V} {k : Int} (e : listAt h i = some vs) (hs : vs.length ≤ 16777216) : slcV (.ref i) .none (.int k) h = some (.ref h.length, h ++ [.list (sliceL vs none (some k))]) := (onL_of e).trans (if_pos hs)
end
noncomputable def worthsI : List Int := [34, 21, 13, 8, 5, 3, 2, 1]
noncomputable def worthsV : List V := worthsI.map .int
noncomputable def sameLL (a b : List V) : Bool := allAtoms a && allAtoms b && eqAtoms a b
noncomputable def endOK (came : WW) (num U L : Int) (ws : Option WW) (lz : Option (List Nat)) : Bool := match ws with
  | some ws => match lz with
    | some lz => sameLL ((sortS came).map .str) ((sortS ws).map .str) && Nat.ble ws.length 60 && caseOK came (greedyF worthsI num []) lz U L
    | none => false
  | none => false
noncomputable def restOK (num U L : Int) (r : Option (WW × WW)) : Bool := match r with
  | some (came, met) => sameLL (came.map .str) (sliceL (met.map .str) none (some (came.length : Int))) && Nat.ble met.length 1000 && Nat.ble came.length 60 && endOK came num U L (waysF 30 worthsV num) (lazyF worthsV 8 0 num [])
  | none => false
noncomputable def lawOK (w : List Nat) (num U L : Int) : Bool := allBT w && Nat.ble w.length 100 && restOK num U L (runF 20 w [] [w] [])
theorem sameL_parts {a b : List V} (h : sameLL a b = true) : allAtoms a = true ∧ allAtoms b = true ∧ eqAtoms a b = true := by
  unfold sameLL at h
  simp only [Bool.and_eq_true] at h
  exact ⟨h.1.1, h.1.2, h.2⟩
theorem law_tok {b : Nat} {H : MH} {text w : List Nat} (hw : allBT w = true) (hw0 : w ≠ []) (hl : w.length ≤ 100) (ht : text = 34 :: (w ++ 34 :: [10, 101, 110, 100]) ∨ text = esc w ++ 10 :: [101, 110, 100]) (I : LI b H text 1 []) :
    ∃ (H' : MH) (chars : List Nat) (line : Int), CI 30 (.con 302) [.ref (b + 6)] H = some (.str w, H') ∧ LI b H' chars line [] ∧ ((chars = [101, 110, 100] ∧ line = 2) ∨ (chars = [10, 101, 110, 100] ∧ line = 1)) ∧ Keep8 b H H' := by
  rcases ht with rfl | rfl
  · obtain ⟨H', e, J, k⟩ := tok_quoted (d := 27) hw (by (first | lia | omega)) I
    exact ⟨H', _, _, e, J, .inr ⟨rfl, rfl⟩, k⟩
  · cases w with
    | nil => exact absurd rfl hw0
    | cons c r =>
      rw [List.length_cons] at hl
      obtain ⟨H', e, J, k⟩ := tok_bare (d := 27) hw (by (first | lia | omega)) I
      exact ⟨H', _, _, e, J, .inl ⟨rfl, rfl⟩, k⟩
theorem lawMid {w text : List Nat} {num U L z2 : Int} {fr : Fr} {H : MH} {wr : Nat} (ok : lawOK w num U L = true) (hw0 : w ≠ []) (htok : text.all (Nat.ble · 127) = true) (htl : text.length ≤ 1000) (ht : text = 34 :: (w ++ 34 :: [10, 101, 110, 100]) ∨ text = esc w ++ 10 :: [101, 110, 100])
    (c103 : lk fr.cel 103 = some 2) (c109 : lk fr.cel 109 = some 1) (c110 : lk fr.cel 110 = some 3) (c111 : lk fr.cel 111 = some 4)
    (h1 : H[1]? = some (.cell (some (.str w)))) (h2 : H[2]? = some (.cell (some (.ref wr)))) (h3 : H[3]? = some (.cell none)) (h4 : H[4]? = some (.cell none)) (hwr : H[wr]? = some (.list worthsV))
    (e97 : lk fr.loc 97 = some (.str text)) (e128 : lk fr.loc 128 = some (.int num)) (e51 : lk fr.loc 51 = some (.int U)) (e4 : lk fr.loc 4 = some (.int L)) (e127 : lk fr.loc 127 = some (.int z2)) :
    ∃ (fr2 : Fr) (H2 : MH), fSs GG (CI 30) 200 (dropS 8 lawRest) fr H = some (.ret (.bool true), fr2, H2) := by
  unfold lawOK at ok
  simp only [Bool.and_eq_true] at ok
  obtain ⟨⟨o1, o2⟩, ok⟩ := ok
  have o2 := Nat.le_of_ble_eq_true o2
  unfold restOK at ok
  split at ok
  case h_2 => cases ok
  rename_i came met hrun
  simp only [Bool.and_eq_true] at ok
  obtain ⟨⟨⟨o3, o4⟩, o5⟩, ok⟩ := ok
  obtain ⟨o31, o32, o33⟩ := sameL_parts o3
  have o4 := Nat.le_of_ble_eq_true o4
  have o5 := Nat.le_of_ble_eq_true o5
  unfold endOK at ok
  split at ok
  case h_2 => cases ok
  rename_i ws hways
  split at ok
  case h_2 => cases ok
  rename_i lz hlz
  simp only [Bool.and_eq_true] at ok
  obtain ⟨⟨o6, o7⟩, ok⟩ := ok
  obtain ⟨o61, o62, o63⟩ := sameL_parts o6
  have o7 := Nat.le_of_ble_eq_true o7
  -- the lexer
  obtain ⟨H8, l1, I8, k8⟩ := law_lexer (d := 28) htok htl H
  have p1 := at_lt h1
  have p2 := at_lt h2
  have p3 := at_lt h3
  have p4 := at_lt h4
  have pw := at_lt hwr
  have nwr : 1 ≠ wr ∧ 2 ≠ wr ∧ 3 ≠ wr ∧ 4 ≠ wr := by
    refine ⟨?_, ?_, ?_, ?_⟩ <;> intro q <;> subst q
    · rw [h1] at hwr; cases hwr
    · rw [h2] at hwr; cases hwr
    · rw [h3] at hwr; cases hwr
    · rw [h4] at hwr; cases hwr
  generalize hb : H.length = b at *
  have i1 := k8 _ _ h1
  have i2 := k8 _ _ h2
  have i3 := k8 _ _ h3
  have i4 := k8 _ _ h4
  have iw := k8 _ _ hwr
  have hpb := at_lt I8.pb
  -- met and came
  obtain ⟨mt, hmt⟩ : ∃ mt, mt = H8.length := ⟨_, rfl⟩
  have I9 := I8.app (L := [AO.list [.str w]])
  have z9 : (H8 ++ [AO.list [.str w]]).length = mt + 1 := by rw [List.length_append, hmt]; rfl
  have m9 : (H8 ++ [AO.list [.str w]])[mt]? = some (.list (([w] : WW).map .str)) := by rw [hmt]; exact app_new
  have j1 := app_at (L := [AO.list [.str w]]) i1
  have j2 := app_at (L := [AO.list [.str w]]) i2
  have j3 := app_at (L := [AO.list [.str w]]) i3
  have j4 := app_at (L := [AO.list [.str w]]) i4
  have jw := app_at (L := [AO.list [.str w]]) iw
  generalize hH9 : H8 ++ [AO.list [.str w]] = H9 at *
  have I10 := (I9.app (L := [AO.list []])).set (i := 3) (o := .cell (some (.ref H9.length))) (.inl (by (first | lia | omega)))
  have q3 := set_at (x := .cell (some (.ref H9.length))) (app_at (L := [AO.list []]) j3)
  have qc : ((H9 ++ [AO.list []]).set 3 (.cell (some (.ref H9.length))))[H9.length]? = some (.list (([] : WW).map .str)) := set_ne (by (first | lia | omega)) app_new
  have qk : ∀ (i : Nat) o, i ≠ 3 → H9[i]? = some o → ((H9 ++ [AO.list []]).set 3 (.cell (some (.ref H9.length))))[i]? = some o := fun i o ni e => set_ne (Ne.symm ni) (app_at e)
  have s10 : ∀ fr : Fr, lk fr.cel 110 = some 3 → fS GG (CI 30) 200 (.asg (.cel 110) (.lst (.nil))) fr H9 = some (.nxt, fr, (H9 ++ [AO.list []]).set 3 (.cell (some (.ref H9.length)))) := fun fr e => x_asgc (y_lst y_nil (Nat.le_of_ble_eq_true rfl)) e (app_at j3)
  generalize (H9 ++ [AO.list []]).set 3 (.cell (some (.ref H9.length))) = H10 at *
  rw [z9] at q3 qc
  -- the first word, the search
  obtain ⟨H11, chars, line, l2, I11, hend, k11⟩ := law_tok o1 hw0 o2 ht I10
  have out1 : ∀ i, i < b → Out8 b i := fun i h => .inl h
  have om : Out8 b mt := .inr (by (first | lia | omega))
  have oc : Out8 b (mt + 1) := .inr (by (first | lia | omega))
  obtain ⟨fr12, H12, w1, w2, I12, w4, w5, w6, w7, w8⟩ := wh_loop om oc (out1 3 p3) (by (first | lia | omega)) (by (first | lia | omega)) (by (first | lia | omega)) hend 20 200 ⟨put (put (put fr.loc 130 (.ref (b + 6))) 129 (.ref mt)) 100 (.str w), fr.cel⟩ H11 w [] [w] [] (by decide) (by decide) (by decide) hrun I11 (k11 _ _ (out1 3 p3) q3) (k11 _ _ oc qc) (k11 _ _ om (qk _ _ (by (first | lia | omega)) m9)) c110 lk_eq (lk_ne rfl lk_eq) (lk_ne rfl (lk_ne rfl lk_eq))
  have keep12 : ∀ (i : Nat) o, i < b → i ≠ 3 → H8[i]? = some o → H12[i]? = some o := fun i o hi n3 e => w8 i o (out1 i hi) (by (first | lia | omega)) (by (first | lia | omega)) (k11 i o (out1 i hi) (qk i o n3 (by rw [← hH9]; exact app_at e)))
  have a2 := keep12 2 _ p2 (by decide) i2
  have a3 := w8 3 _ (out1 3 p3) (by (first | lia | omega)) (by (first | lia | omega)) (k11 _ _ (out1 3 p3) q3)
  have a4 := keep12 4 _ p4 (by decide) i4
  have aw := keep12 wr _ pw (Ne.symm nwr.2.2.1) iw
  have f129 := w7 129 _ (by decide) (by decide) (lk_ne rfl lk_eq)
  have f130 := w7 130 _ (by decide) (by decide) (lk_ne rfl (lk_ne rfl lk_eq))
  have f128 := w7 128 _ (by decide) (by decide) (lk_ne rfl (lk_ne rfl (lk_ne rfl e128)))
  have f51 := w7 51 _ (by decide) (by decide) (lk_ne rfl (lk_ne rfl (lk_ne rfl e51)))
  have f4 := w7 4 _ (by decide) (by decide) (lk_ne rfl (lk_ne rfl (lk_ne rfl e4)))
  have f127 := w7 127 _ (by decide) (by decide) (lk_ne rfl (lk_ne rfl (lk_ne rfl e127)))
  have g103 : lk fr12.cel 103 = some 2 := by rw [w6]; exact c103
  have g110 : lk fr12.cel 110 = some 3 := by rw [w6]; exact c110
  have g111 : lk fr12.cel 111 = some 4 := by rw [w6]; exact c111
  -- nothing more comes
  obtain ⟨H13, l3, I13, k13⟩ := tok_none (d := 27) I12
  have b2 := k13 _ _ (out1 2 p2) a2
  have b3 := k13 _ _ (out1 3 p3) a3
  have b4 := k13 _ _ (out1 4 p4) a4
  have bw := k13 _ _ (out1 wr pw) aw
  have bc := k13 _ _ oc w4
  have bm := k13 _ _ om w5
  -- the lists that are compared
  have len13 : primV .len [.ref (mt + 1)] H13 = some (.int (came.length : Nat), H13) := by rw [len_at bc (by rw [List.length_map]; (first | lia | omega)), List.length_map]
  have sl := slcL_to (h := H13) (k := (came.length : Int)) (listAt_of bm) (by rw [List.length_map]; (first | lia | omega))
  obtain ⟨L1, hL1⟩ : ∃ L1, L1 = [AO.list (sliceL (met.map .str) none (some (came.length : Int)))] := ⟨_, rfl⟩
  have n1 := ne_list (app_at (L := L1) bc) (by rw [hL1]; exact app_new) o31 o32 o33
  rw [← hL1] at sl
  have so1 := sorted_at (app_at (L := L1) bc) (by (first | lia | omega))
  have c14 := (ways 30 worthsV num ws (H13 ++ L1 ++ [AO.list ((sortS came).map .str)]) wr hways (listAt_of (app_at (app_at bw)))).1
  have so2 := sorted_at (h := H13 ++ L1 ++ [AO.list ((sortS came).map .str)] ++ [AO.list (ws.map .str)]) app_new (by (first | lia | omega))
  have n2 := ne_list (h := H13 ++ L1 ++ [AO.list ((sortS came).map .str)] ++ [AO.list (ws.map .str)] ++ [AO.list ((sortS ws).map .str)]) (app_at (app_at app_new)) app_new o61 o62 o63
  have kz : ∀ (i : Nat) o, H13[i]? = some o → (H13 ++ L1 ++ [AO.list ((sortS came).map .str)] ++ [AO.list (ws.map .str)] ++ [AO.list ((sortS ws).map .str)])[i]? = some o := fun i o e => app_at (app_at (app_at (app_at e)))
  have t14 : fT GG (CI 30) 200 (.bop .Or (.cons (.cmp .NotEq (.cel 110) (.slc (.loc 129) (.lit .none) (.prim .len (.cons (.cel 110) (.nil))))) (.cons (.cmp .NotEq (.prim .sorted (.cons (.cel 110) (.nil))) (.prim .sorted (.cons (.call (.glb 27) (.cons (.cel 103) (.cons (.loc 128) (.nil)))) (.nil)))) (.nil)))) fr12 H13 = some (false, H13 ++ L1 ++ [AO.list ((sortS came).map .str)] ++ [AO.list (ws.map .str)] ++ [AO.list ((sortS ws).map .str)]) :=
    t_or2' (y_tcmp (y_cel g110 b3) (y_slc (y_loc f129) rfl (y_prim (y_cons (y_cel g110 b3) y_nil) len13) sl) n1)
      (y_tcmp (y_prim (y_cons (y_cel g110 (app_at b3)) y_nil) so1) (y_prim (y_cons (y_call (y_glb rfl) (y_cons (y_cel g103 (app_at (app_at b2))) (y_cons (y_loc f128) y_nil)) c14) y_nil) so2) n2)
  generalize H13 ++ L1 ++ [AO.list ((sortS came).map .str)] ++ [AO.list (ws.map .str)] ++ [AO.list ((sortS ws).map .str)] = H14 at *
  have d2 := kz _ _ b2
  have dw := kz _ _ bw
  have c15 := greedy (d := 29) (l := wr) (ns := worthsI) (left := num) (H := H14) (by decide) (listAt_of dw)
  have c16 := lazy (d := 29) (l := wr) (ws := worthsV) (left := num) (H := H14) (by decide) (allAtoms_ints worthsI) hlz (listAt_of dw)
  obtain ⟨fr2, H2, fin⟩ := lawB_ok (fr := ⟨put (put fr12.loc 113 (.str (greedyF worthsI num []))) 115 (.str lz), fr12.cel⟩) (z2 := z2) ok g110 g111 (by decide) (kz _ _ b3) (kz _ _ b4) (kz _ _ bc) (lk_ne rfl (lk_ne rfl f51)) (lk_ne rfl (lk_ne rfl f4)) (lk_ne rfl lk_eq) lk_eq (lk_ne rfl (lk_ne rfl f127))
  have s9 : ∀ fr : Fr, lk fr.cel 109 = some 1 → fS GG (CI 30) 200 (.asg (.loc 129) (.lst (.cons (.cel 109) (.nil)))) fr H8 = some (.nxt, ⟨put fr.loc 129 (.ref mt), fr.cel⟩, H9) := fun fr e => by
    rw [← hH9, hmt]
    exact x_asg (y_lst (y_cons (y_cel e i1) y_nil) (Nat.le_of_ble_eq_true rfl))
  exact ⟨fr2, H2, x_cons (x_asg (y_call (y_glb rfl) (y_cons (y_loc e97) y_nil) l1)) <| x_cons (s9 _ c109) <| x_cons (s10 _ c110) <|
    x_cons (x_asg (call_tok I10 (lk_ne rfl lk_eq) l2)) <| x_cons (x_whl w1) <|
    x_cons (x_skip (t_or3' (y_tcmp (y_loc w2) rfl rfl) (t_ne_f (y_att (y_loc f130) (attr_at I12.l I12.dl rfl (by rfl))) rfl rfl) (y_tcmp (call_tok I12 f130 l3) rfl rfl))) <|
    x_cons (x_skip t14) <| x_cons (x_asg (y_call (y_glb rfl) (y_cons (y_cel g103 d2) (y_cons (y_loc f128) y_nil)) c15)) <| x_cons (x_asg (y_call (y_glb rfl) (y_cons (y_cel g103 d2) (y_cons (y_loc (lk_ne rfl f128)) y_nil)) c16)) fin⟩
end Rz
end P27
section P28
open PySem PySem.W PySem.Calls PyProof.Rows
namespace Rz
set_option linter.unusedVariables false
set_option linter.unusedSimpArgs false
set_option maxRecDepth 100000
/-! the first statements, for each of the 127 figures -/
noncomputable def bitOf (k p : Nat) : Nat := match Nat.beq (k / 2 ^ p % 2) 1 with
  | true => 9
  | false => 32
noncomputable def wOf (k : Nat) : List Nat := [32, bitOf k 6, bitOf k 5, bitOf k 4, bitOf k 3, bitOf k 2, bitOf k 1, bitOf k 0]
noncomputable def wsum : List Int → List Nat → Int
  | x :: xs, c :: cs => (match Nat.beq c 9 with | true => x | false => 0) + wsum xs cs
  | _, _ => 0
noncomputable def numOf (k : Nat) : Int := wsum worthsI (wOf k)
noncomputable def uOf (k : Nat) : Int := wsum [13, 8, 5, 3, 2, 1, 1, 0] (wOf k)
noncomputable def lOf (k : Nat) : Int := wsum [8, 5, 3, 2, 1, 1, 0, 1] (wOf k)
noncomputable def textOf (p : Bool) (w : List Nat) : List Nat := match p with
  | true => 34 :: (w ++ 34 :: [10, 101, 110, 100])
  | false => esc w ++ 10 :: [101, 110, 100]
noncomputable def frA (z1 z2 : Int) : Fr := ⟨put (put [] 133 (.int z1)) 127 (.int z2), zipN lawCells 0⟩
noncomputable def hA (f : Int) : MH := H0.set 0 (.cell (some (.int f)))
noncomputable def segB (r : Out) : Out := match r with
  | some (.nxt, fr2, h2) => fSs GG (CI 30) 200 (takeS 5 (dropS 3 lawRest)) fr2 h2
  | _ => none
noncomputable def segA (p : Bool) (r : Out) : Out := match r with
  | some (.nxt, fr1, h1) => match p with
    | true => segB (fSs GG (CI 30) 200 (ifT (nthS 2 lawRest)) fr1 h1)
    | false => segB (fSs GG (CI 30) 200 (ifE (nthS 2 lawRest)) fr1 h1)
  | _ => none
noncomputable def intIs (v : Option V) (x : Int) : Bool := match v with
  | some (.int i) => decide (i = x)
  | _ => false
noncomputable def strIs (v : Option V) (x : List Nat) : Bool := match v with
  | some (.str s) => natsEq s x
  | _ => false
noncomputable def natIs (v : Option Nat) (x : Nat) : Bool := match v with
  | some i => Nat.beq i x
  | _ => false
noncomputable def cellHas (o : Option AO) (k : Option V → Bool) : Bool := match o with
  | some (.cell v) => k v
  | _ => false
noncomputable def isNo (v : Option V) : Bool := match v with
  | none => true
  | some _ => false
noncomputable def refIs (H : MH) (v : Option V) : Bool := match v with
  | some (.ref i) => match listAt H i with
    | some vs => eqAtoms vs worthsV
    | none => false
  | _ => false
noncomputable def tstA (p : Bool) (k : Nat) (fr : Fr) (H : MH) : Bool := strIs (lk fr.loc 97) (textOf p (wOf k)) && intIs (lk fr.loc 128) (numOf k) && intIs (lk fr.loc 51) (uOf k) && intIs (lk fr.loc 4) (lOf k) && natIs (lk fr.cel 103) 2 && natIs (lk fr.cel 109) 1 && natIs (lk fr.cel 110) 3 && natIs (lk fr.cel 111) 4 &&
  cellHas H[1]? (fun v => strIs v (wOf k)) && cellHas H[2]? (refIs H) && cellHas H[3]? isNo && cellHas H[4]? isNo
noncomputable def projA (p : Bool) (k : Nat) (r : Out) : Option (Bool × Option V) := match r with
  | some (.nxt, fr, H) => some (tstA p k fr H, lk fr.loc 127)
  | _ => none
noncomputable def oneA (p : Bool) (z1 z2 : Int) (k : Nat) : Option (Bool × Option V) := projA p k (segA p (fS GG (CI 30) 200 (nthS 1 lawRest) (frA z1 z2) (hA (k : Nat))))
noncomputable def oneB (k : Nat) : Bool := lawOK (wOf k) (numOf k) (uOf k) (lOf k) && (textOf true (wOf k)).all (Nat.ble · 127) && (textOf false (wOf k)).all (Nat.ble · 127)
theorem ct0 (z1 z2 : Int) : (List.range' 1 16).map (oneA true z1 z2) = List.replicate 16 (some (true, some (.int z2))) := by kernel_rfl
theorem cf0 (z1 z2 : Int) : (List.range' 1 16).map (oneA false z1 z2) = List.replicate 16 (some (true, some (.int z2))) := by kernel_rfl
theorem cb0 : (List.range' 1 16).all oneB = true := by kernel_rfl
theorem ct1 (z1 z2 : Int) : (List.range' 17 16).map (oneA true z1 z2) = List.replicate 16 (some (true, some (.int z2))) := by kernel_rfl
theorem cf1 (z1 z2 : Int) : (List.range' 17 16).map (oneA false z1 z2) = List.replicate 16 (some (true, some (.int z2))) := by kernel_rfl
theorem cb1 : (List.range' 17 16).all oneB = true := by kernel_rfl
theorem ct2 (z1 z2 : Int) : (List.range' 33 16).map (oneA true z1 z2) = List.replicate 16 (some (true, some (.int z2))) := by kernel_rfl
theorem cf2 (z1 z2 : Int) : (List.range' 33 16).map (oneA false z1 z2) = List.replicate 16 (some (true, some (.int z2))) := by kernel_rfl
theorem cb2 : (List.range' 33 16).all oneB = true := by kernel_rfl
theorem ct3 (z1 z2 : Int) : (List.range' 49 16).map (oneA true z1 z2) = List.replicate 16 (some (true, some (.int z2))) := by kernel_rfl
theorem cf3 (z1 z2 : Int) : (List.range' 49 16).map (oneA false z1 z2) = List.replicate 16 (some (true, some (.int z2))) := by kernel_rfl
theorem cb3 : (List.range' 49 16).all oneB = true := by kernel_rfl
theorem ct4 (z1 z2 : Int) : (List.range' 65 16).map (oneA true z1 z2) = List.replicate 16 (some (true, some (.int z2))) := by kernel_rfl
theorem cf4 (z1 z2 : Int) : (List.range' 65 16).map (oneA false z1 z2) = List.replicate 16 (some (true, some (.int z2))) := by kernel_rfl
theorem cb4 : (List.range' 65 16).all oneB = true := by kernel_rfl
theorem ct5 (z1 z2 : Int) : (List.range' 81 16).map (oneA true z1 z2) = List.replicate 16 (some (true, some (.int z2))) := by kernel_rfl
theorem cf5 (z1 z2 : Int) : (List.range' 81 16).map (oneA false z1 z2) = List.replicate 16 (some (true, some (.int z2))) := by kernel_rfl
theorem cb5 : (List.range' 81 16).all oneB = true := by kernel_rfl
theorem ct6 (z1 z2 : Int) : (List.range' 97 16).map (oneA true z1 z2) = List.replicate 16 (some (true, some (.int z2))) := by kernel_rfl
theorem cf6 (z1 z2 : Int) : (List.range' 97 16).map (oneA false z1 z2) = List.replicate 16 (some (true, some (.int z2))) := by kernel_rfl
theorem cb6 : (List.range' 97 16).all oneB = true := by kernel_rfl
theorem ct7 (z1 z2 : Int) : (List.range' 113 15).map (oneA true z1 z2) = List.replicate 15 (some (true, some (.int z2))) := by kernel_rfl
theorem cf7 (z1 z2 : Int) : (List.range' 113 15).map (oneA false z1 z2) = List.replicate 15 (some (true, some (.int z2))) := by kernel_rfl
theorem cb7 : (List.range' 113 15).all oneB = true := by kernel_rfl
theorem map_at {α β : Type} {f : α → β} {l : List α} {n : Nat} {c : β} (e : l.map f = List.replicate n c) {x : α} (m : x ∈ l) : f x = c := List.eq_of_mem_replicate (e ▸ List.mem_map_of_mem m)
theorem in_chunk {k a c : Nat} (h1 : a ≤ k) (h2 : k < a + c) : k ∈ List.range' a c := List.mem_range'_1.mpr ⟨h1, h2⟩
theorem oneA_ok (p : Bool) (z1 z2 : Int) {k : Nat} (h1 : 1 ≤ k) (h2 : k ≤ 127) : oneA p z1 z2 k = some (true, some (.int z2)) := by
  cases p
  · by_cases q0 : k < 17
    · exact map_at (cf0 z1 z2) (in_chunk (by (first | lia | omega)) (by (first | lia | omega)))
    by_cases q1 : k < 33
    · exact map_at (cf1 z1 z2) (in_chunk (by (first | lia | omega)) (by (first | lia | omega)))
    by_cases q2 : k < 49
    · exact map_at (cf2 z1 z2) (in_chunk (by (first | lia | omega)) (by (first | lia | omega)))
    by_cases q3 : k < 65
    · exact map_at (cf3 z1 z2) (in_chunk (by (first | lia | omega)) (by (first | lia | omega)))
    by_cases q4 : k < 81
    · exact map_at (cf4 z1 z2) (in_chunk (by (first | lia | omega)) (by (first | lia | omega)))
    by_cases q5 : k < 97
    · exact map_at (cf5 z1 z2) (in_chunk (by (first | lia | omega)) (by (first | lia | omega)))
    by_cases q6 : k < 113
    · exact map_at (cf6 z1 z2) (in_chunk (by (first | lia | omega)) (by (first | lia | omega)))
    exact map_at (cf7 z1 z2) (in_chunk (by (first | lia | omega)) (by (first | lia | omega)))
  · by_cases q0 : k < 17
    · exact map_at (ct0 z1 z2) (in_chunk (by (first | lia | omega)) (by (first | lia | omega)))
    by_cases q1 : k < 33
    · exact map_at (ct1 z1 z2) (in_chunk (by (first | lia | omega)) (by (first | lia | omega)))
    by_cases q2 : k < 49
    · exact map_at (ct2 z1 z2) (in_chunk (by (first | lia | omega)) (by (first | lia | omega)))
    by_cases q3 : k < 65
    · exact map_at (ct3 z1 z2) (in_chunk (by (first | lia | omega)) (by (first | lia | omega)))
    by_cases q4 : k < 81
    · exact map_at (ct4 z1 z2) (in_chunk (by (first | lia | omega)) (by (first | lia | omega)))
    by_cases q5 : k < 97
    · exact map_at (ct5 z1 z2) (in_chunk (by (first | lia | omega)) (by (first | lia | omega)))
    by_cases q6 : k < 113
    · exact map_at (ct6 z1 z2) (in_chunk (by (first | lia | omega)) (by (first | lia | omega)))
    exact map_at (ct7 z1 z2) (in_chunk (by (first | lia | omega)) (by (first | lia | omega)))
theorem oneB_ok {k : Nat} (h1 : 1 ≤ k) (h2 : k ≤ 127) : oneB k = true := by
  by_cases q0 : k < 17
  · exact List.all_eq_true.mp cb0 k (in_chunk (by (first | lia | omega)) (by (first | lia | omega)))
  by_cases q1 : k < 33
  · exact List.all_eq_true.mp cb1 k (in_chunk (by (first | lia | omega)) (by (first | lia | omega)))
  by_cases q2 : k < 49
  · exact List.all_eq_true.mp cb2 k (in_chunk (by (first | lia | omega)) (by (first | lia | omega)))
  by_cases q3 : k < 65
  · exact List.all_eq_true.mp cb3 k (in_chunk (by (first | lia | omega)) (by (first | lia | omega)))
  by_cases q4 : k < 81
  · exact List.all_eq_true.mp cb4 k (in_chunk (by (first | lia | omega)) (by (first | lia | omega)))
  by_cases q5 : k < 97
  · exact List.all_eq_true.mp cb5 k (in_chunk (by (first | lia | omega)) (by (first | lia | omega)))
  by_cases q6 : k < 113
  · exact List.all_eq_true.mp cb6 k (in_chunk (by (first | lia | omega)) (by (first | lia | omega)))
  exact List.all_eq_true.mp cb7 k (in_chunk (by (first | lia | omega)) (by (first | lia | omega)))
end Rz
end P28
section P29
open PySem PySem.W PySem.Calls PyProof.Rows
namespace Rz
set_option linter.unusedVariables false
set_option linter.unusedSimpArgs false
set_option maxRecDepth 100000
theorem strIs_of {v : Option V} {x : List Nat} (h : strIs v x = true) : v = some (.str x) := by
  unfold strIs at h
  split at h
  · rw [natsEq_eq, decide_eq_true_eq] at h; rw [h]
  · cases h
theorem intIs_of {v : Option V} {x : Int} (h : intIs v x = true) : v = some (.int x) := by
  unfold intIs at h
  split at h
  · rw [decide_eq_true_eq] at h; rw [h]
  · cases h
theorem natIs_of {v : Option Nat} {x : Nat} (h : natIs v x = true) : v = some x := by
  unfold natIs at h
  split at h
  · rw [Nat.eq_of_beq_eq_true h]
  · cases h
theorem cellHas_of {o : Option AO} {k : Option V → Bool} (h : cellHas o k = true) : ∃ v, o = some (.cell v) ∧ k v = true := by
  unfold cellHas at h
  split at h
  · exact ⟨_, rfl, h⟩
  · cases h
theorem isNo_of {v : Option V} (h : isNo v = true) : v = none := by
  unfold isNo at h
  split at h
  · rfl
  · cases h
theorem refIs_of {H : MH} {v : Option V} (h : refIs H v = true) : ∃ i, v = some (.ref i) ∧ H[i]? = some (.list worthsV) := by
  unfold refIs at h
  split at h
  · split at h
    · rename_i i _ vs e
      exact ⟨i, rfl, by rw [listAt_some e, eqAtoms_eq h]⟩
    · cases h
  · cases h
theorem cel_frame {G : Gl} {C : Call} {n x : Nat} {e : E} {fr fr1 : Fr} {h h1 : MH} {fl : Fl} (q : fS G C n (.asg (.cel x) e) fr h = some (fl, fr1, h1)) : fl = .nxt ∧ fr1 = fr := by
  refine i_asg q fun w h1 fr2 h2 e1 e2 => ⟨rfl, ?_⟩
  exact bnd_e e2 fun i e3 e4 => Exists.elim (onCel_some e4) fun v z => fh_e z.2 rfl
theorem fSs_split (G : Gl) (C : Call) (n k : Nat) (ss : Ss) (fr : Fr) (h : MH) (fr1 : Fr) (h1 : MH) (e : fSs G C n (takeS k ss) fr h = some (.nxt, fr1, h1)) : fSs G C n ss fr h = fSs G C n (dropS k ss) fr1 h1 := by
  exact exL_split G C n k ss fr h fr1 h1 e
theorem wOf_ne (k : Nat) : wOf k ≠ [] := by unfold wOf; exact nofun
theorem textOf_len (p : Bool) (k : Nat) : (textOf p (wOf k)).length ≤ 1000 := by
  cases p <;> (unfold textOf wOf; simp [esc])
theorem segB_ok {p : Bool} {k : Nat} {z2 : Int} {r : Out} (h1 : 1 ≤ k) (h2 : k ≤ 127) (e : projA p k (segB r) = some (true, some (.int z2))) : ∃ fr2 h2 fr3 h3, r = some (.nxt, fr2, h2) ∧ fSs GG (CI 30) 200 (dropS 3 lawRest) fr2 h2 = some (.ret (.bool true), fr3, h3) := by
  unfold segB at e
  split at e
  case h_2 => cases e
  rename_i fr2 hh2
  refine ⟨fr2, hh2, ?_⟩
  cases hr : fSs GG (CI 30) 200 (takeS 5 (dropS 3 lawRest)) fr2 hh2 with
  | none => rw [hr] at e; cases e
  | some q =>
  obtain ⟨fl, fr, H⟩ := q
  rw [hr] at e
  unfold projA at e
  split at e
  case h_2 => cases e
  rename_i frx Hx heq
  cases heq
  simp only [Option.some.injEq, Prod.mk.injEq] at e
  obtain ⟨et, e127⟩ := e
  unfold tstA at et
  simp only [Bool.and_eq_true] at et
  obtain ⟨⟨⟨⟨⟨⟨⟨⟨⟨⟨⟨t1, t2⟩, t3⟩, t4⟩, t5⟩, t6⟩, t7⟩, t8⟩, t9⟩, t10⟩, t11⟩, t12⟩ := et
  obtain ⟨v1, c1, d1⟩ := cellHas_of t9
  obtain ⟨v2, c2, d2⟩ := cellHas_of t10
  obtain ⟨v3, c3, d3⟩ := cellHas_of t11
  obtain ⟨v4, c4, d4⟩ := cellHas_of t12
  rw [strIs_of d1] at c1
  obtain ⟨wr, d2, cw⟩ := refIs_of d2
  rw [d2] at c2
  rw [isNo_of d3] at c3
  rw [isNo_of d4] at c4
  have ob := oneB_ok h1 h2
  unfold oneB at ob
  simp only [Bool.and_eq_true] at ob
  obtain ⟨fr3, h3, m⟩ := lawMid (text := textOf p (wOf k)) ob.1.1 (wOf_ne k) (by cases p; exact ob.2; exact ob.1.2) (textOf_len p k) (by cases p; exact .inr rfl; exact .inl rfl) (natIs_of t5) (natIs_of t6) (natIs_of t7) (natIs_of t8) c1 c2 c3 c4 cw (strIs_of t1) (intIs_of t2) (intIs_of t3) (intIs_of t4) e127
  exact ⟨fr3, h3, rfl, (fSs_split GG (CI 30) 200 5 (dropS 3 lawRest) fr2 hh2 _ _ hr).trans m⟩
theorem hmini0 (z1 z2 : Int) : ∃ fr2 H2, fSs GG (iC GG DD 200 30) 200 lawRest ⟨put (put [] 133 (.int z1)) 127 (.int z2), zipN lawCells 0⟩ H0 = some (.ret (.bool true), fr2, H2) := by
  have hm := Int.fmod_nonneg_of_pos z1 (show (0 : Int) < 127 by decide)
  have hm2 := Int.fmod_lt_of_pos z1 (show (0 : Int) < 127 by decide)
  obtain ⟨k, hk⟩ : ∃ k : Nat, 1 + z1.fmod 127 = k := ⟨(1 + z1.fmod 127).toNat, by (first | lia | omega)⟩
  have h1 : 1 ≤ k := by (first | lia | omega)
  have h2 : k ≤ 127 := by (first | lia | omega)
  have s0 : fS GG (CI 30) 200 (nthS 0 lawRest) (frA z1 z2) H0 = some (.nxt, frA z1 z2, hA (k : Nat)) :=
    x_asgc (y_addE rfl (y_bin (y_loc rfl) rfl (show binV .Mod (.int z1) (.int 127) H0 = some (.int (z1.fmod 127), H0) from rfl)) hk) rfl rfl
  -- the two roads
  have key : ∀ p : Bool, decide ((z1.fdiv 127).fmod 2 = 0) = p → ∃ fr1 hh1, fS GG (CI 30) 200 (nthS 1 lawRest) (frA z1 z2) (hA (k : Nat)) = some (.nxt, fr1, hh1) ∧ ∃ fr2 hh2 fr3 hh3, fS GG (CI 30) 200 (nthS 2 lawRest) fr1 hh1 = some (.nxt, fr2, hh2) ∧ fSs GG (CI 30) 200 (dropS 3 lawRest) fr2 hh2 = some (.ret (.bool true), fr3, hh3) := by
    intro p hp
    have e := oneA_ok p z1 z2 h1 h2
    unfold oneA at e
    cases hs : fS GG (CI 30) 200 (nthS 1 lawRest) (frA z1 z2) (hA (k : Nat)) with
    | none => rw [hs] at e; cases p <;> cases e
    | some q =>
    obtain ⟨fl, fr1, hh1⟩ := q
    obtain ⟨rfl, rfl⟩ := cel_frame hs
    rw [hs] at e
    refine ⟨_, hh1, rfl, ?_⟩
    have tt : fT GG (CI 30) 200 (.cmp .Eq (.bin .Mod (.bin .FloorDiv (.loc 133) (.lit (.int 127))) (.lit (.int 2))) (.lit (.int 0))) (frA z1 z2) hh1 = some (p, hh1) :=
      y_tcmp (y_bin (y_bin (y_loc rfl) rfl (show binV .FloorDiv (.int z1) (.int 127) hh1 = some (.int (z1.fdiv 127), hh1) from rfl)) rfl (show binV .Mod (.int (z1.fdiv 127)) (.int 2) hh1 = some (.int ((z1.fdiv 127).fmod 2), hh1) from rfl)) rfl (congrArg some hp)
    cases p with
    | true =>
      obtain ⟨fr2, hh2, fr3, hh3, g1, g2⟩ := segB_ok h1 h2 (show projA true k (segB (fSs GG (CI 30) 200 (ifT (nthS 2 lawRest)) (frA z1 z2) hh1)) = _ from e)
      exact ⟨fr2, hh2, fr3, hh3, x_if tt g1, g2⟩
    | false =>
      obtain ⟨fr2, hh2, fr3, hh3, g1, g2⟩ := segB_ok h1 h2 (show projA false k (segB (fSs GG (CI 30) 200 (ifE (nthS 2 lawRest)) (frA z1 z2) hh1)) = _ from e)
      exact ⟨fr2, hh2, fr3, hh3, x_else tt g1, g2⟩
  obtain ⟨fr1, hh1, s1, fr2, hh2, fr3, hh3, s2, s3⟩ := key _ rfl
  exact ⟨fr3, hh3, x_cons s0 (x_cons s1 (x_cons s2 s3))⟩
end Rz
end P29
section ZC
open PySem PySem.W PySem.W.X PySem.W.ZRun PyProof.Rows
namespace Rz
noncomputable def qq : Program := view PySem.Challenge.rw_sc0106_01.prog [25]
noncomputable def ll : List Str := ["_wall", "_DIV_LIMIT", "_div2n1n", "_div3n2n", "_int2digits", "_digits2int", "_divmod_pos", "int_divmod", "_netrclex", "Whitespace", "_MAX_STRING_SIZE", "_MOVE_COST", "_CASE_COST", "_substitution_cost", "_levenshtein_distance", "_law_lexer", "_law_changed", "_law_ways", "_law_greedy", "_law_lazy"]
set_option maxRecDepth 100000 in
set_option maxHeartbeats 0 in
theorem hl0 (w : World) : (openEnds treeTable PySem.Challenge.rw_sc0106_01.prog (w.withFollow "special-get-raises" false) 2900).map (fun s => (openSeen qq ll (importedModules PySem.Challenge.rw_sc0106_01.prog.main.body) (fun s => xlAt qq [] s && recOk [] s) true s, chk s.heap)) = some (openGood qq ll, true) := by kernel_rfl
set_option maxRecDepth 100000 in
set_option maxHeartbeats 0 in
theorem hl1 (w : World) : (openEnds treeTable PySem.Challenge.rw_sc0106_01.prog (w.withFollow "special-get-raises" true) 2900).map (fun s => (openSeen qq ll (importedModules PySem.Challenge.rw_sc0106_01.prog.main.body) (fun s => xlAt qq [] s && recOk [] s) true s, chk s.heap)) = some (openGood qq ll, true) := by kernel_rfl
theorem hlT : LeftO PySem.Challenge.rw_sc0106_01.prog qq ll (fun s => xlAt qq [] s && recOk [] s) (fun s => chk s.heap) (fun _ => true) 2900 := fun w => byRow2 "special-get-raises" (P := fun w => (openEnds treeTable PySem.Challenge.rw_sc0106_01.prog w 2900).map (fun s => (openSeen qq ll (importedModules PySem.Challenge.rw_sc0106_01.prog.main.body) (fun s => xlAt qq [] s && recOk [] s) true s, chk s.heap)) = some (openGood qq ll, true)) hl0 hl1 w
end Rz
end ZC
section ZF
open PySem PySem.W PySem.W.X PySem.W.ZRun PyProof.Rows PySem.Calls
namespace Rz
theorem tab_at {h : Heap} (C : Chk h) {t : Tab} (ht : t ∈ tabsOf h) : h.TableAt t.c t.P #[] := by
  obtain ⟨o, vs, T⟩ := tab_parts (C.tabs t ht)
  exact ⟨⟨o, vs, T.h1, T.h2, T.h3, T.h4⟩, T.h9⟩
theorem no_tab_list {X : Cx} {ρ H} {s : Shared} {l : Addr} {vs : Array Value} (S : SOK X ρ H s) (hl : s.heap.IsList l vs) : l ∉ X.TP := fun m => by
  obtain ⟨t, h1, rfl⟩ := List.mem_map.mp m
  obtain ⟨ps, _, h3, _⟩ := S.tabs t h1
  obtain ⟨o, ho, hc, _⟩ := hl
  rw [h3.2] at ho; cases ho; cases hc
theorem old_ok {w : World} {h : Heap} {s s' : Shared} {ρ' : List Addr} {H' : MH} (S : SOK (mkX w h s.os) [] [] s) (S' : SOK (mkX w h s.os) ρ' H' s') (E : Ext (mkX w h s.os) [] s.heap ρ' s'.heap) (hT : ∀ t ∈ (mkX w h s.os).tabs, s.heap.TableAt t.c t.P #[]) : OldK s.heap s'.heap := by
  have key : ∀ b o, s.heap.get? b = some o → (s'.heap.get? b = some o) ∨ (isCodeTable s.heap b ∧ o.cls = .none ∧ ∃ vs more, o.data = .fields vs ∧ s'.heap.get? b = some { o with data := .fields (vs ++ more) }) := by
    intro b o e
    by_cases hb : b ∈ (mkX w h s.os).TP
    · obtain ⟨t, h1, rfl⟩ := List.mem_map.mp hb
      obtain ⟨ps', _, h4, _⟩ := S'.tabs t h1
      have h3 := hT t h1
      have e' := e
      rw [h3.2] at e'
      cases e'
      exact .inr ⟨h3.isCodeTable, rfl, #[], ps', rfl, by rw [h4.2]; simp⟩
    · exact .inl (E.ch b o e (by simp) hb)
  refine ⟨fun b o e => (key b o e).elim .inl fun h => .inr (.inl h), fun b o e => ?_⟩
  rcases key b o e with h | ⟨_, _, _, _, _, h⟩ <;> exact ⟨_, h⟩
set_option maxRecDepth 100000 in
set_option maxHeartbeats 0 in
theorem hd0 : PySem.Challenge.rw_sc0106_01.Holds := by
  refine holds_law (by kernel_rfl) fun said => ?_
  refine holds_openX (q := qq) (loose := ll) (Xt := fun s => xlAt qq [] s && recOk [] s) (XP := XL qq []) (Yf := fun s => chk s.heap) (Ya := fun _ => true) (N := 2900) hlT (fun s e => xl_of s (Bool.and_eq_true_iff.mp e).1) XL.keeps (by rfl) (by rfl) (by rfl) (fun s e => recFacts_of (Bool.and_eq_true_iff.mp e).2) (by rfl) (by first | assumption | decide +kernel) (by decide +kernel) ⟨rfl, rfl, rfl, rfl, rfl, by decide +kernel⟩ ?hw ?hc
  case hw => w_witness2
  intro w s₀ s₁ mg mb G y fa o pm cd doc dV kV ho hd hcd hD hmg hg args vals as L hpre hlay hrd hwl hlo
  clear hmg G
  wrow_args hpre hlay hrd hwl hlo
  rename_i ns _ _ _ _ _ _ l vs _ hL _ _ _ hI _ hlen _
  have S := start_ok (w := w) y (s := s₁) L.keeps hg
  have W : WOK (mkX w s₀.heap s₁.os) GG (KK s₀.heap) DD (mgOf s₀.heap) (mbOf s₀.heap) := wok y
  obtain ⟨CO, B⟩ := iC_ok (n := 200) W 30
  have hlT : l ∉ (mkX w s₀.heap s₁.os).TP := no_tab_list S hL
  have dv0 : dV = .none := hD.pos.elim (·.2) (fun h => absurd rfl h.1)
  have main := law_call (A := callerA) W rfl CO B S hL hI (by (first | lia | omega)) hlT ho hd rfl rfl rfl (by decide) (by decide) (by kernel_rfl) (by kernel_rfl) rfl rfl dv0 hcd rfl hmini0 ⟨rfl, by show 301 + (90 + 2) < 990; (first | lia | omega), by show 4 + 8 * (90 + 2) < 9000; (first | lia | omega)⟩
  refine wpAny_mono main (fun c s' hc => ?_) fun e s x => x.elim
  obtain ⟨rfl, ρ', H', E, S'⟩ := hc
  refine ⟨.inl ⟨_, .bool true, [], rfl, fun cls => rfl, .bool true, ?_, fun h => ⟨.nil, fun a m => nomatch m⟩⟩, old_ok S S' E (fun t ht => (tab_at (chk_parts y) ht).keeps L.keeps), S'.os, .of_eq S'.gens⟩
  first | rfl | wrow_post
end Rz
end ZF
end

theorem PySem.Challenge.cw_sc0106_01_holds : PySem.Challenge.rw_sc0106_01.Holds :=
  Rz.hd0
