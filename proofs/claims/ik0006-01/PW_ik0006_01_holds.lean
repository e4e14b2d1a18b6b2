import PyProof.Rows.All
import Wide.All
import OpenK.AllK
import Wide.FinOn
import Lean
import PySem.Challenge.RW_ik0006_01
set_option Elab.async false
set_option linter.all false
set_option genSizeOf false
set_option bootstrap.genMatcherCode false

section
namespace Mine
set_option tactic.hygienic false
/-! what a fact of several parts says, in one step -/
theorem e0_2  {p0 p1 : Prop} {P : Prop} (h : p0 ∧ p1) (g : p0 → p1 → P) : P := g h.1 h.2
theorem e0_3  {p0 p1 p2 : Prop} {P : Prop} (h : p0 ∧ p1 ∧ p2) (g : p0 → p1 → p2 → P) : P := g h.1 h.2.1 h.2.2
theorem e0_4  {p0 p1 p2 p3 : Prop} {P : Prop} (h : p0 ∧ p1 ∧ p2 ∧ p3) (g : p0 → p1 → p2 → p3 → P) : P := g h.1 h.2.1 h.2.2.1 h.2.2.2
theorem e0_5  {p0 p1 p2 p3 p4 : Prop} {P : Prop} (h : p0 ∧ p1 ∧ p2 ∧ p3 ∧ p4) (g : p0 → p1 → p2 → p3 → p4 → P) : P := g h.1 h.2.1 h.2.2.1 h.2.2.2.1 h.2.2.2.2
theorem e0_7  {p0 p1 p2 p3 p4 p5 p6 : Prop} {P : Prop} (h : p0 ∧ p1 ∧ p2 ∧ p3 ∧ p4 ∧ p5 ∧ p6) (g : p0 → p1 → p2 → p3 → p4 → p5 → p6 → P) : P := g h.1 h.2.1 h.2.2.1 h.2.2.2.1 h.2.2.2.2.1 h.2.2.2.2.2.1 h.2.2.2.2.2.2
theorem e0_15  {p0 p1 p2 p3 p4 p5 p6 p7 p8 p9 p10 p11 p12 p13 p14 : Prop} {P : Prop} (h : p0 ∧ p1 ∧ p2 ∧ p3 ∧ p4 ∧ p5 ∧ p6 ∧ p7 ∧ p8 ∧ p9 ∧ p10 ∧ p11 ∧ p12 ∧ p13 ∧ p14) (g : p0 → p1 → p2 → p3 → p4 → p5 → p6 → p7 → p8 → p9 → p10 → p11 → p12 → p13 → p14 → P) : P := g h.1 h.2.1 h.2.2.1 h.2.2.2.1 h.2.2.2.2.1 h.2.2.2.2.2.1 h.2.2.2.2.2.2.1 h.2.2.2.2.2.2.2.1 h.2.2.2.2.2.2.2.2.1 h.2.2.2.2.2.2.2.2.2.1 h.2.2.2.2.2.2.2.2.2.2.1 h.2.2.2.2.2.2.2.2.2.2.2.1 h.2.2.2.2.2.2.2.2.2.2.2.2.1 h.2.2.2.2.2.2.2.2.2.2.2.2.2.1 h.2.2.2.2.2.2.2.2.2.2.2.2.2.2
theorem e1_1 {a0 : Type} {p0 : a0 → Prop} {P : Prop} (h : ∃ x0, p0 x0) (g : ∀ x0, p0 x0 → P) : P := Exists.elim h fun x0 h => g x0 h
theorem e1_2 {a0 : Type} {p0 p1 : a0 → Prop} {P : Prop} (h : ∃ x0, p0 x0 ∧ p1 x0) (g : ∀ x0, p0 x0 → p1 x0 → P) : P := Exists.elim h fun x0 h => g x0 h.1 h.2
theorem e1_3 {a0 : Type} {p0 p1 p2 : a0 → Prop} {P : Prop} (h : ∃ x0, p0 x0 ∧ p1 x0 ∧ p2 x0) (g : ∀ x0, p0 x0 → p1 x0 → p2 x0 → P) : P := Exists.elim h fun x0 h => g x0 h.1 h.2.1 h.2.2
theorem e1_4 {a0 : Type} {p0 p1 p2 p3 : a0 → Prop} {P : Prop} (h : ∃ x0, p0 x0 ∧ p1 x0 ∧ p2 x0 ∧ p3 x0) (g : ∀ x0, p0 x0 → p1 x0 → p2 x0 → p3 x0 → P) : P := Exists.elim h fun x0 h => g x0 h.1 h.2.1 h.2.2.1 h.2.2.2
theorem e2_1 {a0 : Type} {a1 : Type} {p0 : a0 → a1 → Prop} {P : Prop} (h : ∃ x0, ∃ x1, p0 x0 x1) (g : ∀ x0 x1, p0 x0 x1 → P) : P := Exists.elim h fun x0 h => Exists.elim h fun x1 h => g x0 x1 h
theorem e2_2 {a0 : Type} {a1 : Type} {p0 p1 : a0 → a1 → Prop} {P : Prop} (h : ∃ x0, ∃ x1, p0 x0 x1 ∧ p1 x0 x1) (g : ∀ x0 x1, p0 x0 x1 → p1 x0 x1 → P) : P := Exists.elim h fun x0 h => Exists.elim h fun x1 h => g x0 x1 h.1 h.2
theorem e2_3 {a0 : Type} {a1 : Type} {p0 p1 p2 : a0 → a1 → Prop} {P : Prop} (h : ∃ x0, ∃ x1, p0 x0 x1 ∧ p1 x0 x1 ∧ p2 x0 x1) (g : ∀ x0 x1, p0 x0 x1 → p1 x0 x1 → p2 x0 x1 → P) : P := Exists.elim h fun x0 h => Exists.elim h fun x1 h => g x0 x1 h.1 h.2.1 h.2.2
theorem e2_4 {a0 : Type} {a1 : Type} {p0 p1 p2 p3 : a0 → a1 → Prop} {P : Prop} (h : ∃ x0, ∃ x1, p0 x0 x1 ∧ p1 x0 x1 ∧ p2 x0 x1 ∧ p3 x0 x1) (g : ∀ x0 x1, p0 x0 x1 → p1 x0 x1 → p2 x0 x1 → p3 x0 x1 → P) : P := Exists.elim h fun x0 h => Exists.elim h fun x1 h => g x0 x1 h.1 h.2.1 h.2.2.1 h.2.2.2
theorem e2_5 {a0 : Type} {a1 : Type} {p0 p1 p2 p3 p4 : a0 → a1 → Prop} {P : Prop} (h : ∃ x0, ∃ x1, p0 x0 x1 ∧ p1 x0 x1 ∧ p2 x0 x1 ∧ p3 x0 x1 ∧ p4 x0 x1) (g : ∀ x0 x1, p0 x0 x1 → p1 x0 x1 → p2 x0 x1 → p3 x0 x1 → p4 x0 x1 → P) : P := Exists.elim h fun x0 h => Exists.elim h fun x1 h => g x0 x1 h.1 h.2.1 h.2.2.1 h.2.2.2.1 h.2.2.2.2
theorem e2_7 {a0 : Type} {a1 : Type} {p0 p1 p2 p3 p4 p5 p6 : a0 → a1 → Prop} {P : Prop} (h : ∃ x0, ∃ x1, p0 x0 x1 ∧ p1 x0 x1 ∧ p2 x0 x1 ∧ p3 x0 x1 ∧ p4 x0 x1 ∧ p5 x0 x1 ∧ p6 x0 x1) (g : ∀ x0 x1, p0 x0 x1 → p1 x0 x1 → p2 x0 x1 → p3 x0 x1 → p4 x0 x1 → p5 x0 x1 → p6 x0 x1 → P) : P := Exists.elim h fun x0 h => Exists.elim h fun x1 h => g x0 x1 h.1 h.2.1 h.2.2.1 h.2.2.2.1 h.2.2.2.2.1 h.2.2.2.2.2.1 h.2.2.2.2.2.2
theorem e3_2 {a0 : Type} {a1 : Type} {a2 : Type} {p0 p1 : a0 → a1 → a2 → Prop} {P : Prop} (h : ∃ x0, ∃ x1, ∃ x2, p0 x0 x1 x2 ∧ p1 x0 x1 x2) (g : ∀ x0 x1 x2, p0 x0 x1 x2 → p1 x0 x1 x2 → P) : P := Exists.elim h fun x0 h => Exists.elim h fun x1 h => Exists.elim h fun x2 h => g x0 x1 x2 h.1 h.2
theorem e3_3 {a0 : Type} {a1 : Type} {a2 : Type} {p0 p1 p2 : a0 → a1 → a2 → Prop} {P : Prop} (h : ∃ x0, ∃ x1, ∃ x2, p0 x0 x1 x2 ∧ p1 x0 x1 x2 ∧ p2 x0 x1 x2) (g : ∀ x0 x1 x2, p0 x0 x1 x2 → p1 x0 x1 x2 → p2 x0 x1 x2 → P) : P := Exists.elim h fun x0 h => Exists.elim h fun x1 h => Exists.elim h fun x2 h => g x0 x1 x2 h.1 h.2.1 h.2.2
theorem e3_4 {a0 : Type} {a1 : Type} {a2 : Type} {p0 p1 p2 p3 : a0 → a1 → a2 → Prop} {P : Prop} (h : ∃ x0, ∃ x1, ∃ x2, p0 x0 x1 x2 ∧ p1 x0 x1 x2 ∧ p2 x0 x1 x2 ∧ p3 x0 x1 x2) (g : ∀ x0 x1 x2, p0 x0 x1 x2 → p1 x0 x1 x2 → p2 x0 x1 x2 → p3 x0 x1 x2 → P) : P := Exists.elim h fun x0 h => Exists.elim h fun x1 h => Exists.elim h fun x2 h => g x0 x1 x2 h.1 h.2.1 h.2.2.1 h.2.2.2
theorem e3_5 {a0 : Type} {a1 : Type} {a2 : Type} {p0 p1 p2 p3 p4 : a0 → a1 → a2 → Prop} {P : Prop} (h : ∃ x0, ∃ x1, ∃ x2, p0 x0 x1 x2 ∧ p1 x0 x1 x2 ∧ p2 x0 x1 x2 ∧ p3 x0 x1 x2 ∧ p4 x0 x1 x2) (g : ∀ x0 x1 x2, p0 x0 x1 x2 → p1 x0 x1 x2 → p2 x0 x1 x2 → p3 x0 x1 x2 → p4 x0 x1 x2 → P) : P := Exists.elim h fun x0 h => Exists.elim h fun x1 h => Exists.elim h fun x2 h => g x0 x1 x2 h.1 h.2.1 h.2.2.1 h.2.2.2.1 h.2.2.2.2
theorem e4_3 {a0 : Type} {a1 : Type} {a2 : Type} {a3 : Type} {p0 p1 p2 : a0 → a1 → a2 → a3 → Prop} {P : Prop} (h : ∃ x0, ∃ x1, ∃ x2, ∃ x3, p0 x0 x1 x2 x3 ∧ p1 x0 x1 x2 x3 ∧ p2 x0 x1 x2 x3) (g : ∀ x0 x1 x2 x3, p0 x0 x1 x2 x3 → p1 x0 x1 x2 x3 → p2 x0 x1 x2 x3 → P) : P := Exists.elim h fun x0 h => Exists.elim h fun x1 h => Exists.elim h fun x2 h => Exists.elim h fun x3 h => g x0 x1 x2 x3 h.1 h.2.1 h.2.2
theorem e4_6 {a0 : Type} {a1 : Type} {a2 : Type} {a3 : Type} {p0 p1 p2 p3 p4 p5 : a0 → a1 → a2 → a3 → Prop} {P : Prop} (h : ∃ x0, ∃ x1, ∃ x2, ∃ x3, p0 x0 x1 x2 x3 ∧ p1 x0 x1 x2 x3 ∧ p2 x0 x1 x2 x3 ∧ p3 x0 x1 x2 x3 ∧ p4 x0 x1 x2 x3 ∧ p5 x0 x1 x2 x3) (g : ∀ x0 x1 x2 x3, p0 x0 x1 x2 x3 → p1 x0 x1 x2 x3 → p2 x0 x1 x2 x3 → p3 x0 x1 x2 x3 → p4 x0 x1 x2 x3 → p5 x0 x1 x2 x3 → P) : P := Exists.elim h fun x0 h => Exists.elim h fun x1 h => Exists.elim h fun x2 h => Exists.elim h fun x3 h => g x0 x1 x2 x3 h.1 h.2.1 h.2.2.1 h.2.2.2.1 h.2.2.2.2.1 h.2.2.2.2.2
theorem e5_2 {a0 : Type} {a1 : Type} {a2 : Type} {a3 : Type} {a4 : Type} {p0 p1 : a0 → a1 → a2 → a3 → a4 → Prop} {P : Prop} (h : ∃ x0, ∃ x1, ∃ x2, ∃ x3, ∃ x4, p0 x0 x1 x2 x3 x4 ∧ p1 x0 x1 x2 x3 x4) (g : ∀ x0 x1 x2 x3 x4, p0 x0 x1 x2 x3 x4 → p1 x0 x1 x2 x3 x4 → P) : P := Exists.elim h fun x0 h => Exists.elim h fun x1 h => Exists.elim h fun x2 h => Exists.elim h fun x3 h => Exists.elim h fun x4 h => g x0 x1 x2 x3 x4 h.1 h.2
theorem e5_4 {a0 : Type} {a1 : Type} {a2 : Type} {a3 : Type} {a4 : Type} {p0 p1 p2 p3 : a0 → a1 → a2 → a3 → a4 → Prop} {P : Prop} (h : ∃ x0, ∃ x1, ∃ x2, ∃ x3, ∃ x4, p0 x0 x1 x2 x3 x4 ∧ p1 x0 x1 x2 x3 x4 ∧ p2 x0 x1 x2 x3 x4 ∧ p3 x0 x1 x2 x3 x4) (g : ∀ x0 x1 x2 x3 x4, p0 x0 x1 x2 x3 x4 → p1 x0 x1 x2 x3 x4 → p2 x0 x1 x2 x3 x4 → p3 x0 x1 x2 x3 x4 → P) : P := Exists.elim h fun x0 h => Exists.elim h fun x1 h => Exists.elim h fun x2 h => Exists.elim h fun x3 h => Exists.elim h fun x4 h => g x0 x1 x2 x3 x4 h.1 h.2.1 h.2.2.1 h.2.2.2
theorem l3 {p0 p1 p2 P : Prop} (h : (p0 ∧ p1) ∧ p2) (g : p0 → p1 → p2 → P) : P := g h.1.1 h.1.2 h.2
theorem l4 {p0 p1 p2 p3 P : Prop} (h : ((p0 ∧ p1) ∧ p2) ∧ p3) (g : p0 → p1 → p2 → p3 → P) : P := g h.1.1.1 h.1.1.2 h.1.2 h.2
theorem l5 {p0 p1 p2 p3 p4 P : Prop} (h : (((p0 ∧ p1) ∧ p2) ∧ p3) ∧ p4) (g : p0 → p1 → p2 → p3 → p4 → P) : P := g h.1.1.1.1 h.1.1.1.2 h.1.1.2 h.1.2 h.2
theorem l6 {p0 p1 p2 p3 p4 p5 P : Prop} (h : ((((p0 ∧ p1) ∧ p2) ∧ p3) ∧ p4) ∧ p5) (g : p0 → p1 → p2 → p3 → p4 → p5 → P) : P := g h.1.1.1.1.1 h.1.1.1.1.2 h.1.1.1.2 h.1.1.2 h.1.2 h.2
theorem l7 {p0 p1 p2 p3 p4 p5 p6 P : Prop} (h : (((((p0 ∧ p1) ∧ p2) ∧ p3) ∧ p4) ∧ p5) ∧ p6) (g : p0 → p1 → p2 → p3 → p4 → p5 → p6 → P) : P := g h.1.1.1.1.1.1 h.1.1.1.1.1.2 h.1.1.1.1.2 h.1.1.1.2 h.1.1.2 h.1.2 h.2
theorem l9 {p0 p1 p2 p3 p4 p5 p6 p7 p8 P : Prop} (h : (((((((p0 ∧ p1) ∧ p2) ∧ p3) ∧ p4) ∧ p5) ∧ p6) ∧ p7) ∧ p8) (g : p0 → p1 → p2 → p3 → p4 → p5 → p6 → p7 → p8 → P) : P := g h.1.1.1.1.1.1.1.1 h.1.1.1.1.1.1.1.2 h.1.1.1.1.1.1.2 h.1.1.1.1.1.2 h.1.1.1.1.2 h.1.1.1.2 h.1.1.2 h.1.2 h.2
end Mine
end

section
open PySem PySem.W PyProof.Rows

namespace Mine
set_option tactic.hygienic false

theorem nos {α : Type} {x : α} {P : Prop} (h : (none : Option α) = some x) : P := nomatch h

theorem nsm {α : Type} {x : Option α} {o : α} {P : Prop} (z : x = none) (e : x = some o) : P := nos (z.symm.trans e)
theorem clash {x : Option Obj} {o o' : Obj} {d d' : Data} {P : Prop} (e : x = some o) (e' : x = some o') (q : o.data = d) (q' : o'.data = d') (h : d.ctorIdx ≠ d'.ctorIdx) : P :=
  absurd (congrArg Data.ctorIdx (q.symm.trans ((congrArg Obj.data (Option.some.inj (e.symm.trans e'))).trans q'))) h
theorem clashE {x : Option Obj} {o o' : Obj} {d' : Data} {P : Prop} (e : x = some o) (e' : x = some o') (q : ∃ xs n, o.data = .seq xs n) (q' : o'.data = d') (h : 2 ≠ d'.ctorIdx) : P :=
  Exists.elim q fun _ q => Exists.elim q fun _ q => clash e e' q q' h

/-! A small syntax of my own for what the law's text uses, and what it gives over plain data. -/

inductive Op2 where
  | add | sub | mul | fdiv | mod | pow
inductive Cm where
  | eq | ne | lt | gt | isin | notin

set_option genInjectivity false in
inductive X where
  | nil
  | var (v : String)
  | int (n : Int)
  | str (s : String)
  | bool (b : Bool)
  | bin (o : Op2) (a b : X)
  | neg (a : X)
  | cmp (o : Cm) (a b : X)
  | bop (isAnd : Bool) (xs : List X)
  | not (a : X)
  | ite (t a b : X)
  | list (xs : List X)
  | tup (xs : List X)
  | idx (a b : X)
  | slc (a lo hi : X)
  | comp (elt : X) (v : String) (src cond : X)
  | compR (elt : X) (v : String) (n : Nat)
  | call (f : String) (xs : List X)
  | bi (f : String) (xs : List X)
  | meth (m : String) (o : X) (xs : List X)
  | isBytes (a : X)
  | mapF (a : X)
  | cmpK (k l r : X)
  | cmpV (v : String) (l r : X)
  | keysOf (v : String)
  | ownLast (v : String)
  | ownLen (v : String)
  | ownNotIn (a : X) (v : String)
  | ownSorted (v : String)

set_option genInjectivity false in
inductive S where
  | assign (v : String) (e : X)
  | assignC (v : String) (e : X)
  | setTrue (v : String) (p : String) (src sep : X)
  | unpack (vs : List String) (e : X)
  | swap (vs : List String) (es : List X)
  | swapOwn (v w : String) (e : X)
  | swapComp (v w : String) (k : X)
  | newOwn (v : String)
  | freeze (w v : String)
  | append (v : String) (e : X)
  | pop (v : String)
  | aug (v : String) (e : X)
  | ite (t : X) (a b : List S)
  | whl (t : X) (a : List S)
  | for1 (v : String) (src : X) (a : List S)
  | forT (vs : List String) (src : X) (a : List S)
  | forR (v : String) (lo hi : X) (a : List S)
  | forE (i v : String) (src : X) (a : List S)
  | ret (e : X)
  | brk
  | cont
  | try_ (a : List S)
  | dead

/-- what a name holds -/
inductive AV where
  | no
  | val (d : PyData)
  | own (ds : List PyData)
  | cmp (k : PyData)

noncomputable abbrev Ro := String → AV
noncomputable def upd (ρ : Ro) (v : String) (a : AV) : Ro := fun y => if y = v then a else ρ y

/-! ### plain data -/
noncomputable def truthyD : PyData → Option Bool
  | .none => some false
  | .bool b => some b
  | .int n => some (n != 0)
  | .str x => some (x.length != 0)
  | .list xs => some (xs.length != 0)
  | .tuple xs => some (xs.length != 0)
  | .dict _ => none

noncomputable def shal : Nat → PyData → Bool
  | _, .none => true
  | _, .bool _ => true
  | _, .int _ => true
  | _, .str x => PyData.strOk x
  | n + 1, .list xs => xs.all (shal n)
  | n + 1, .tuple xs => xs.all (shal n)
  | _, _ => false

/-! looks at a datum -/
noncomputable def onI {β : Type} (d : PyData) (k : Int → Option β) (e : Option β := none) : Option β := if h : d.ctorIdx = 2 then PyData.int.elim d h k else e
noncomputable def onT {β : Type} (d : PyData) (k : Str → Option β) (e : Option β := none) : Option β := if h : d.ctorIdx = 3 then PyData.str.elim d h k else e
noncomputable def onL {β : Type} (d : PyData) (k : List PyData → Option β) (e : Option β := none) : Option β := if h : d.ctorIdx = 4 then PyData.list.elim d h k else e
noncomputable def onU {β : Type} (d : PyData) (k : List PyData → Option β) (e : Option β := none) : Option β := if h : d.ctorIdx = 5 then PyData.tuple.elim d h k else e
noncomputable def on1 {β : Type} (ds : List PyData) (k : PyData → Option β) : Option β := List.casesOn ds none fun d r => List.casesOn r (k d) fun _ _ => none
noncomputable def onC {β : Type} (ds : List PyData) (k : PyData → List PyData → Option β) : Option β := List.casesOn ds none k

/-- atoms: ints and texts -/
noncomputable def ltA (x y : PyData) : Option Bool := onI x (fun a => onI y fun b => some (decide (a < b))) (onT x fun a => onT y fun b => some (decide (a.cps.toList < b.cps.toList)))

noncomputable def isAtom : PyData → Bool
  | .int _ => true
  | .str _ => true
  | _ => false

/-- the first place where two lists part, by the items' order; else by length -/
noncomputable def ltL : List PyData → List PyData → Option Bool
  | [], [] => some false
  | [], _ :: _ => some true
  | _ :: _, [] => some false
  | x :: xs, y :: ys => if isAtom x && isAtom y then (if PyData.eqv x y then ltL xs ys else ltA x y) else none
noncomputable def gtL : List PyData → List PyData → Option Bool
  | [], [] => some false
  | [], _ :: _ => some false
  | _ :: _, [] => some true
  | x :: xs, y :: ys => if isAtom x && isAtom y then (if PyData.eqv x y then gtL xs ys else ltA y x) else none

noncomputable def ltD (x y : PyData) : Option Bool := onL x (fun xs => onL y fun ys => ltL xs ys) (ltA x y)
noncomputable def gtD (x y : PyData) : Option Bool := onL x (fun xs => onL y fun ys => gtL xs ys) (ltA y x)

noncomputable def cmpD (o : Cm) (a b : PyData) : Option PyData := match o with
  | .eq => if shal 4 a && shal 4 b then some (.bool (PyData.eqv a b)) else none
  | .ne => if shal 4 a && shal 4 b then some (.bool (!PyData.eqv a b)) else none
  | .lt => (ltD a b).map .bool
  | .gt => (gtD a b).map .bool
  | .isin => onL b fun xs => if shal 4 a && xs.all (shal 4) then some (.bool (xs.any fun y => PyData.eqv y a)) else none
  | .notin => onL b fun xs => if shal 4 a && xs.all (shal 4) then some (.bool (!xs.any fun y => PyData.eqv y a)) else none

noncomputable def repL {α : Type} (n : Nat) (xs : List α) : List α := (List.replicate n xs).flatten

noncomputable def addD (x y : PyData) : Option PyData :=
  onI x (fun a => onI y fun b => some (.int (a + b)))
    (onT x (fun x => onT y fun y => if x.length + y.length ≤ sizeLine then some (.str (x ++ y)) else none)
      (onL x fun xs => onL y fun ys => if xs.length + ys.length ≤ sizeLine then some (.list (xs ++ ys)) else none))
noncomputable def mulD (x y : PyData) : Option PyData := onI y fun n =>
  onI x (fun a => if decide (a.natAbs < 1048576) && decide (n.natAbs < 1048576) then some (.int (a * n)) else none)
    (onT x (fun x => if decide (0 ≤ n) && decide (x.length * n.toNat ≤ 1048576) && decide (n < 1048576) then some (.str ⟨(repL n.toNat x.cps.toList).toArray⟩) else none)
      (onL x fun xs => if decide (0 ≤ n) && decide (xs.length * n.toNat ≤ 1048576) && decide (n < 1048576) then some (.list (repL n.toNat xs)) else none))
noncomputable def binD (o : Op2) (x y : PyData) : Option PyData := match o with
  | .add => addD x y
  | .sub => onI x fun a => onI y fun b => some (.int (a - b))
  | .mul => mulD x y
  | .fdiv => onI x fun a => onI y fun b => if decide (0 < b) && decide (b < 1048576) then some (.int (a / b)) else none
  | .mod => onI x fun a => onI y fun b => if decide (0 < b) && decide (b < 1048576) then some (.int (a % b)) else none
  | .pow => onI x fun a => onI y fun b => if decide (a = 2) && decide (0 ≤ b) && decide (b < 64) then some (.int (2 ^ b.toNat)) else none

noncomputable def idxD (x y : PyData) : Option PyData := onI y fun k => onL x (fun xs => if 0 ≤ k then xs[k.toNat]? else none) (onU x fun xs => if 0 ≤ k then xs[k.toNat]? else none)

/-- where a bound of a slice lies, in a sequence of n -/
noncomputable def clampD (n : Nat) (i : Int) : Nat := (max 0 (min (if i < 0 then i + n else i) n)).toNat
noncomputable def partD : PyData → Option (Option Int)
  | .none => some none
  | .int i => some (some i)
  | _ => none
noncomputable def cutD {α : Type} (xs : List α) (lo hi : Option Int) : List α :=
  let a := match lo with | none => 0 | some i => clampD xs.length i
  let b := match hi with | none => xs.length | some i => clampD xs.length i
  (xs.drop a).take (b - a)
noncomputable def slcD (x lo hi : PyData) : Option PyData :=
  onT x (fun x => match partD lo, partD hi with | some lo, some hi => some (.str ⟨(cutD x.cps.toList lo hi).toArray⟩) | _, _ => none)
    (onL x fun xs => match partD lo, partD hi with | some lo, some hi => some (.list (cutD xs lo hi)) | _, _ => none)

noncomputable def strsOf : List PyData → Option (List Str)
  | [] => some []
  | .str x :: r => (strsOf r).map (x :: ·)
  | _ => none
noncomputable def intsOf : List PyData → Option (List Int)
  | [] => some []
  | .int x :: r => (intsOf r).map (x :: ·)
  | _ => none

/-- the least (first of the least), the greatest (first of the greatest) -/
noncomputable def bestD (lt : PyData → PyData → Option Bool) : PyData → List PyData → Option PyData
  | b, [] => some b
  | b, x :: xs => match lt x b with
    | some true => bestD lt x xs
    | some false => bestD lt b xs
    | none => none

noncomputable def insS (x : Str) : List Str → List Str
  | [] => [x]
  | y :: ys => if x.cps.toList < y.cps.toList then x :: y :: ys else y :: insS x ys
noncomputable def sortS : List Str → List Str
  | [] => []
  | x :: xs => insS x (sortS xs)

noncomputable def sortedD (ds : List PyData) : Option PyData := match strsOf ds with
  | some ss => if ss.length < 64 then some (.list ((sortS ss).map .str)) else none
  | none => none

noncomputable def biD (f : String) (args : List PyData) : Option PyData := on1 args fun d =>
  if f = "abs" then onI d fun a => some (.int a.natAbs)
  else if f = "chr" then onI d fun a => if decide (0 ≤ a) && decide (a < 1000) then some (.str ⟨#[a.toNat]⟩) else none
  else if f = "len" then onT d (fun x => some (.int x.length)) (onL d (fun xs => some (.int xs.length)) (onU d fun xs => some (.int xs.length)))
  else if f = "str" then onI d fun a => if decide (a.natAbs < 2) then some (.str (Str.ofString (toString a))) else none
  else if f = "tuple" then onL d fun xs => some (.tuple xs)
  else if f = "sum" then onL d fun xs => (intsOf xs).map fun ns => .int ns.sum
  else if f = "min" then onL d fun xs => onC xs fun x xs => if (x :: xs).all fun y => (x :: xs).all fun z => (ltD y z).isSome then bestD ltD x xs else none
  else if f = "max" then onL d fun xs => onC xs fun x xs => if (x :: xs).all fun y => (x :: xs).all fun z => (gtD y z).isSome then bestD gtD x xs else none
  else none

noncomputable def methD (m : String) (o : PyData) (args : List PyData) : Option PyData := onT o fun x => on1 args fun d =>
  if m = "startswith" then onT d fun y => some (.bool (Txt.startswith x y))
  else if m = "endswith" then onT d fun y => some (.bool (Txt.endswith x y))
  else if m = "rfind" then onT d fun y => some (.int (Txt.rfind x y))
  else if m = "rstrip" then onT d fun y => some (.str (Txt.rstripChars x y))
  else if m = "split" then onT d fun y => if decide (y.length = 1) && decide (x.length ≤ 1048576) then some (.list ((Txt.split x y).map .str)) else none
  else if m = "join" then onL d fun xs => match strsOf xs with
      | some ys => if decide ((ys.map (·.length)).sum + ys.length * x.length ≤ 1048576) then some (.str (Txt.join x ys)) else none
      | none => none
  else none

noncomputable def itemsD : PyData → Option (List PyData)
  | .list xs => some xs
  | .tuple xs => some xs
  | _ => none

/-- a comprehension over the items -/
noncomputable def compD (f : PyData → Option (Option PyData)) : List PyData → Option (List PyData)
  | [] => some []
  | d :: ds => match f d with
    | none => none
    | some none => compD f ds
    | some (some y) => (compD f ds).map (y :: ·)

/-! ### expressions -/
section
variable (C : String → List PyData → Option PyData) (K : PyData → PyData → PyData → Option PyData)
mutual
noncomputable def evX (ρ : Ro) : X → Option PyData
  | .nil => some .none
  | .var v => match ρ v with | .val d => some d | _ => none
  | .int n => some (.int n)
  | .str s => some (.str (Str.ofString s))
  | .bool b => some (.bool b)
  | .bin o a b => match evX ρ a with | none => none | some x => match evX ρ b with | none => none | some y => binD o x y
  | .neg a => match evX ρ a with | some (.int n) => some (.int (-n)) | _ => none
  | .cmp o a b => match evX ρ a with | none => none | some x => match evX ρ b with | none => none | some y => cmpD o x y
  | .bop k xs => evB ρ k xs
  | .not _ => none
  | .ite t a b => match evT ρ t (evX ρ t) with | none => none | some true => evX ρ a | some false => evX ρ b
  | .list xs => match evXs ρ xs with | some ds => some (.list ds) | none => none
  | .tup xs => match evXs ρ xs with | some ds => some (.tuple ds) | none => none
  | .idx a b => match evX ρ a with | none => none | some x => match evX ρ b with | none => none | some y => idxD x y
  | .slc a lo hi => match evX ρ a with | none => none | some x => match evX ρ lo with | none => none | some l => match evX ρ hi with | none => none | some h => slcD x l h
  | .comp elt v src cond => match evX ρ src with
    | none => none
    | some x => match itemsD x with
      | none => none
      | some ds => match compD (fun d => match evT (upd ρ v (.val d)) cond (evX (upd ρ v (.val d)) cond) with
          | none => none
          | some false => some none
          | some true => match evX (upd ρ v (.val d)) elt with | none => none | some y => some (some y)) ds with
        | none => none
        | some out => some (.list out)
  | .compR elt v n => match compD (fun d => match evX (upd ρ v (.val d)) elt with | none => none | some y => some (some y)) ((List.range n).map fun i => .int (i : Nat)) with
        | none => none
        | some out => some (.list out)
  | .call f xs => match evXs ρ xs with | some ds => C f ds | none => none
  | .bi f xs => match evXs ρ xs with | some ds => biD f ds | none => none
  | .meth m o xs => match evX ρ o with | none => none | some x => match evXs ρ xs with | some ds => methD m x ds | none => none
  | .isBytes a => match evX ρ a with | some (.str _) => some (.bool false) | _ => none
  | .mapF a => match evX ρ a with | some x => (match itemsD x with | some ds => (match strsOf ds with | some _ => some (.tuple ds) | none => none) | none => none) | none => none
  | .cmpK k l r => match evX ρ k with | none => none | some x => match evX ρ l with | none => none | some y => match evX ρ r with | none => none | some z => K x y z
  | .cmpV v l r => match ρ v with
    | .cmp x => (match evX ρ l with | none => none | some y => match evX ρ r with | none => none | some z => K x y z)
    | _ => none
  | .keysOf v => match ρ v with | .cmp x => some x | _ => none
  | .ownLast v => match ρ v with | .own ds => ds.getLast? | _ => none
  | .ownLen v => match ρ v with | .own ds => some (.int ds.length) | _ => none
  | .ownNotIn a v => match evX ρ a with
    | none => none
    | some x => match ρ v with
      | .own ds => if shal 4 x && ds.all (shal 4) then some (.bool (!ds.any fun y => PyData.eqv y x)) else none
      | _ => none
  | .ownSorted v => match ρ v with | .own ds => sortedD ds | _ => none
noncomputable def evXs (ρ : Ro) : List X → Option (List PyData)
  | [] => some []
  | x :: xs => match evX ρ x with | none => none | some d => match evXs ρ xs with | none => none | some ds => some (d :: ds)
noncomputable def evB (ρ : Ro) (k : Bool) : List X → Option PyData
  | [] => none
  | x :: xs => match xs with
    | [] => evX ρ x
    | _ :: _ => match evX ρ x with
      | none => none
      | some d => match truthyD d with
        | none => none
        | some b => if b = k then evB ρ k xs else some d
/-- a test, beside the value of the whole (nothing, as a comprehension's condition, is true) -/
noncomputable def evT (ρ : Ro) : X → Option PyData → Option Bool
  | .nil, _ => some true
  | .not a, _ => match evT ρ a (evX ρ a) with | some b => some (!b) | none => none
  | .bop k xs, _ => evTs ρ k xs
  | .ite .., _ => none
  | .var v, _ => match ρ v with | .val d => truthyD d | .own ds => some (ds.length != 0) | _ => none
  | _, some d => truthyD d
  | _, none => none
noncomputable def evTs (ρ : Ro) (k : Bool) : List X → Option Bool
  | [] => some k
  | x :: xs => match evT ρ x (evX ρ x) with
    | none => none
    | some b => if b = k then evTs ρ k xs else some b
end
end

/-! ### statements -/
inductive Fl where
  | next | brk | cont
  | ret (d : PyData)

set_option tactic.hygienic true in
noncomputable def whileD (t : Ro → Option Bool) (b : Ro → Option (Fl × Ro)) : Nat → Ro → Option (Fl × Ro)
  | 0, _ => none
  | n + 1, ρ => match t ρ with
    | none => none
    | some false => some (.next, ρ)
    | some true => match b ρ with
      | none => none
      | some (.next, ρ') => whileD t b n ρ'
      | some (.cont, ρ') => whileD t b n ρ'
      | some (.brk, ρ') => some (.next, ρ')
      | some (.ret d, ρ') => some (.ret d, ρ')

set_option tactic.hygienic true in
/-- a loop over the items; the binding of the item may fail -/
noncomputable def forD (f : PyData → Ro → Option Ro) (b : Ro → Option (Fl × Ro)) : List PyData → Ro → Option (Fl × Ro)
  | [], ρ => some (.next, ρ)
  | d :: ds, ρ => match f d ρ with
    | none => none
    | some ρ₁ => match b ρ₁ with
      | none => none
      | some (.next, ρ') => forD f b ds ρ'
      | some (.cont, ρ') => forD f b ds ρ'
      | some (.brk, ρ') => some (.next, ρ')
      | some (.ret d, ρ') => some (.ret d, ρ')

noncomputable def bindAll : List String → List PyData → Ro → Option Ro
  | [], [], ρ => some ρ
  | v :: vs, d :: ds, ρ => bindAll vs ds (upd ρ v (.val d))
  | _, _, _ => none

noncomputable def unpackD (vs : List String) (d : PyData) (ρ : Ro) : Option Ro := match d with
  | .tuple ds => bindAll vs ds ρ
  | _ => none

noncomputable def enumD : Nat → List PyData → List PyData
  | _, [] => []
  | i, d :: ds => .tuple [.int i, d] :: enumD (i + 1) ds

noncomputable def rangeD (lo hi : PyData) : Option (List PyData) := onI lo fun a => onI hi fun b =>
  if decide (0 ≤ a) && decide (a < 1048576) && decide (-1048576 < b) && decide (b < 1048576) then some ((List.range (b - a).toNat).map fun i => .int (a + (i : Nat))) else none

noncomputable def WN : Nat := 100

section
variable (C : String → List PyData → Option PyData) (K : PyData → PyData → PyData → Option PyData)
set_option tactic.hygienic true in
mutual
noncomputable def exS : S → Ro → Option (Fl × Ro)
  | .assign v e, ρ => match evX C K ρ e with | some d => some (.next, upd ρ v (.val d)) | none => none
  | .assignC v e, ρ => match evX C K ρ e with | some d => some (.next, upd ρ v (.val d)) | none => none
  | .setTrue v p src sep, ρ => match evX C K ρ src with
    | some x => (match itemsD x with
      | some (d :: ds) => (match compD (fun d => match evX C K (upd ρ p (.val d)) (.meth "startswith" (.var p) [sep]) with | some y => some (some y) | none => none) (d :: ds) with
        | some out => if out.all (fun y => match y with | .bool true => true | _ => false) then some (.next, upd ρ v (.val (.bool true))) else none
        | none => none)
      | _ => none)
    | none => none
  | .unpack vs e, ρ => match evX C K ρ e with
    | some d => (match unpackD vs d ρ with | some ρ' => some (.next, ρ') | none => none)
    | none => none
  | .swap vs es, ρ => match evXs C K ρ es with
    | some ds => (match bindAll vs.reverse ds.reverse ρ with | some ρ' => some (.next, ρ') | none => none)
    | none => none
  | .swapOwn v w e, ρ => match evX C K ρ e with | some d => some (.next, upd (upd ρ w (.val d)) v (.own [])) | none => none
  | .swapComp v w k, ρ => match evX C K ρ k with | some d => some (.next, upd (upd ρ w (.cmp d)) v (.val (.list []))) | none => none
  | .newOwn v, ρ => some (.next, upd ρ v (.own []))
  | .freeze w v, ρ => match ρ v with
    | .own ds => some (.next, upd (upd ρ v .no) w (.val (.list ds)))
    | _ => none
  | .append v e, ρ => match evX C K ρ e with
    | some d => (match ρ v with | .own ds => if ds.length < 1048576 then some (.next, upd ρ v (.own (ds ++ [d]))) else none | _ => none)
    | none => none
  | .pop v, ρ => match ρ v with
    | .own ds => (match ds.getLast? with | some (.str _) => some (.next, upd ρ v (.own ds.dropLast)) | _ => none)
    | _ => none
  | .aug v e, ρ => match ρ v with
    | .val x => (match evX C K ρ e with
      | some y => (match x, y with
        | .str a, .str b => if a.length + b.length ≤ sizeLine then some (.next, upd ρ v (.val (.str (a ++ b)))) else none
        | _, _ => none)
      | none => none)
    | _ => none
  | .ite t a b, ρ => match evT C K ρ t (evX C K ρ t) with
    | none => none
    | some true => exSs a ρ
    | some false => exSs b ρ
  | .whl t a, ρ => whileD (fun ρ => evT C K ρ t (evX C K ρ t)) (fun ρ => exSs a ρ) WN ρ
  | .for1 v src a, ρ => match evX C K ρ src with
    | none => none
    | some x => match itemsD x with
      | none => none
      | some ds => forD (fun d ρ => some (upd ρ v (.val d))) (fun ρ => exSs a ρ) ds ρ
  | .forT vs src a, ρ => match evX C K ρ src with
    | none => none
    | some x => match itemsD x with
      | none => none
      | some ds => forD (fun d ρ => unpackD vs d ρ) (fun ρ => exSs a ρ) ds ρ
  | .forR v lo hi a, ρ => match evX C K ρ lo with
    | none => none
    | some l => match evX C K ρ hi with
      | none => none
      | some h => match rangeD l h with
        | none => none
        | some ds => forD (fun d ρ => some (upd ρ v (.val d))) (fun ρ => exSs a ρ) ds ρ
  | .forE i v src a, ρ => match evX C K ρ src with
    | none => none
    | some x => match x with
      | .list ds => forD (fun d ρ => unpackD [i, v] d ρ) (fun ρ => exSs a ρ) (enumD 0 ds) ρ
      | _ => none
  | .ret e, ρ => match evX C K ρ e with | some d => some (.ret d, ρ) | none => none
  | .brk, ρ => some (.brk, ρ)
  | .cont, ρ => some (.cont, ρ)
  | .try_ a, ρ => exSs a ρ
  | .dead, _ => none
noncomputable def exSs : List S → Ro → Option (Fl × Ro)
  | [], ρ => some (.next, ρ)
  | s :: r, ρ => match exS s ρ with
    | none => none
    | some (.next, ρ') => exSs r ρ'
    | some (.brk, ρ') => some (.brk, ρ')
    | some (.cont, ρ') => some (.cont, ρ')
    | some (.ret d, ρ') => some (.ret d, ρ')
end
end

structure FX where
  ps : List String
  va : Option String
  body : List S

noncomputable def bindP : List String → Option String → List PyData → Ro → Option Ro
  | [], none, [], ρ => some ρ
  | [], some w, ds, ρ => if ds.length < 1000 then some (upd ρ w (.val (.tuple ds))) else none
  | p :: ps, va, d :: ds, ρ => bindP ps va ds (upd ρ p (.val d))
  | _, _, _, _ => none

/-- a call of one of the text's defs, n deep -/
noncomputable def callX (T : String → Option FX) (K : PyData → PyData → PyData → Option PyData) : Nat → String → List PyData → Option PyData
  | 0, _, _ => none
  | n + 1, f, args =>
    if f = "fspath" then (match args with | [.str x] => some (.str x) | _ => none) else
    match T f with
    | none => none
    | some fx => match bindP fx.ps fx.va args (fun _ => .no) with
      | none => none
      | some ρ => match exSs (callX T K n) K fx.body ρ with
        | some (.ret d, _) => some d
        | _ => none

/-- the method of the comparer -/
noncomputable def cmpX (body : List S) (k l r : PyData) : Option PyData :=
  match exSs (fun _ _ => none) (fun _ _ _ => none) body (upd (upd (upd (fun _ => .no) "self" (.cmp k)) "left" (.val l)) "right" (.val r)) with
  | some (.ret d, _) => some d
  | _ => none

end Mine
end

section
open PySem PySem.W PyProof.Rows
namespace Mine
set_option tactic.hygienic false
/-! the evaluator, one law for each form -/
section
variable (C : String → List PyData → Option PyData) (K : PyData → PyData → PyData → Option PyData)
theorem evX_nil (ρ : Ro)  : evX C K ρ (.nil) = (some .none) := rfl
theorem evX_var (ρ : Ro) (v : _) : evX C K ρ (.var v) = (match ρ v with | .val d => some d | _ => none) := rfl
theorem evX_int (ρ : Ro) (n : _) : evX C K ρ (.int n) = (some (.int n)) := rfl
theorem evX_str (ρ : Ro) (s : _) : evX C K ρ (.str s) = (some (.str (Str.ofString s))) := rfl
theorem evX_bool (ρ : Ro) (b : _) : evX C K ρ (.bool b) = (some (.bool b)) := rfl
theorem evX_bin (ρ : Ro) (o : _) (a : _) (b : _) : evX C K ρ (.bin o a b) = (match evX C K ρ a with | none => none | some x => match evX C K ρ b with | none => none | some y => binD o x y) := rfl
theorem evX_neg (ρ : Ro) (a : _) : evX C K ρ (.neg a) = (match evX C K ρ a with | some (.int n) => some (.int (-n)) | _ => none) := rfl
theorem evX_cmp (ρ : Ro) (o : _) (a : _) (b : _) : evX C K ρ (.cmp o a b) = (match evX C K ρ a with | none => none | some x => match evX C K ρ b with | none => none | some y => cmpD o x y) := rfl
theorem evX_bop (ρ : Ro) (k : _) (xs : _) : evX C K ρ (.bop k xs) = (evB C K ρ k xs) := rfl
theorem evX_not (ρ : Ro) (u0 : _) : evX C K ρ (.not u0) = (none) := rfl
theorem evX_ite (ρ : Ro) (t : _) (a : _) (b : _) : evX C K ρ (.ite t a b) = (match evT C K ρ t (evX C K ρ t) with | none => none | some true => evX C K ρ a | some false => evX C K ρ b) := rfl
theorem evX_list (ρ : Ro) (xs : _) : evX C K ρ (.list xs) = (match evXs C K ρ xs with | some ds => some (.list ds) | none => none) := rfl
theorem evX_tup (ρ : Ro) (xs : _) : evX C K ρ (.tup xs) = (match evXs C K ρ xs with | some ds => some (.tuple ds) | none => none) := rfl
theorem evX_idx (ρ : Ro) (a : _) (b : _) : evX C K ρ (.idx a b) = (match evX C K ρ a with | none => none | some x => match evX C K ρ b with | none => none | some y => idxD x y) := rfl
theorem evX_slc (ρ : Ro) (a : _) (lo : _) (hi : _) : evX C K ρ (.slc a lo hi) = (match evX C K ρ a with | none => none | some x => match evX C K ρ lo with | none => none | some l => match evX C K ρ hi with | none => none | some h => slcD x l h) := rfl
theorem evX_comp (ρ : Ro) (elt : _) (v : _) (src : _) (cond : _) : evX C K ρ (.comp elt v src cond) = (match evX C K ρ src with
    | none => none
    | some x => match itemsD x with
      | none => none
      | some ds => match compD (fun d => match evT C K (upd ρ v (.val d)) cond (evX C K (upd ρ v (.val d)) cond) with
          | none => none
          | some false => some none
          | some true => match evX C K (upd ρ v (.val d)) elt with | none => none | some y => some (some y)) ds with
        | none => none
        | some out => some (.list out)) := rfl
theorem evX_compR (ρ : Ro) (elt : _) (v : _) (n : _) : evX C K ρ (.compR elt v n) = (match compD (fun d => match evX C K (upd ρ v (.val d)) elt with | none => none | some y => some (some y)) ((List.range n).map fun i => .int (i : Nat)) with
        | none => none
        | some out => some (.list out)) := rfl
theorem evX_call (ρ : Ro) (f : _) (xs : _) : evX C K ρ (.call f xs) = (match evXs C K ρ xs with | some ds => C f ds | none => none) := rfl
theorem evX_bi (ρ : Ro) (f : _) (xs : _) : evX C K ρ (.bi f xs) = (match evXs C K ρ xs with | some ds => biD f ds | none => none) := rfl
theorem evX_meth (ρ : Ro) (m : _) (o : _) (xs : _) : evX C K ρ (.meth m o xs) = (match evX C K ρ o with | none => none | some x => match evXs C K ρ xs with | some ds => methD m x ds | none => none) := rfl
theorem evX_isBytes (ρ : Ro) (a : _) : evX C K ρ (.isBytes a) = (match evX C K ρ a with | some (.str _) => some (.bool false) | _ => none) := rfl
theorem evX_mapF (ρ : Ro) (a : _) : evX C K ρ (.mapF a) = (match evX C K ρ a with | some x => (match itemsD x with | some ds => (match strsOf ds with | some _ => some (.tuple ds) | none => none) | none => none) | none => none) := rfl
theorem evX_cmpK (ρ : Ro) (k : _) (l : _) (r : _) : evX C K ρ (.cmpK k l r) = (match evX C K ρ k with | none => none | some x => match evX C K ρ l with | none => none | some y => match evX C K ρ r with | none => none | some z => K x y z) := rfl
theorem evX_cmpV (ρ : Ro) (v : _) (l : _) (r : _) : evX C K ρ (.cmpV v l r) = (match ρ v with
    | .cmp x => (match evX C K ρ l with | none => none | some y => match evX C K ρ r with | none => none | some z => K x y z)
    | _ => none) := rfl
theorem evX_keysOf (ρ : Ro) (v : _) : evX C K ρ (.keysOf v) = (match ρ v with | .cmp x => some x | _ => none) := rfl
theorem evX_ownLast (ρ : Ro) (v : _) : evX C K ρ (.ownLast v) = (match ρ v with | .own ds => ds.getLast? | _ => none) := rfl
theorem evX_ownLen (ρ : Ro) (v : _) : evX C K ρ (.ownLen v) = (match ρ v with | .own ds => some (.int ds.length) | _ => none) := rfl
theorem evX_ownNotIn (ρ : Ro) (a : _) (v : _) : evX C K ρ (.ownNotIn a v) = (match evX C K ρ a with
    | none => none
    | some x => match ρ v with
      | .own ds => if shal 4 x && ds.all (shal 4) then some (.bool (!ds.any fun y => PyData.eqv y x)) else none
      | _ => none) := rfl
theorem evX_ownSorted (ρ : Ro) (v : _) : evX C K ρ (.ownSorted v) = (match ρ v with | .own ds => sortedD ds | _ => none) := rfl
set_option tactic.hygienic true in
theorem exS_assign (v : _) (e : _) (ρ : Ro) : exS C K (.assign v e) ρ = (match evX C K ρ e with | some d => some (.next, upd ρ v (.val d)) | none => none) := rfl
set_option tactic.hygienic true in
theorem exS_assignC (v : _) (e : _) (ρ : Ro) : exS C K (.assignC v e) ρ = (match evX C K ρ e with | some d => some (.next, upd ρ v (.val d)) | none => none) := rfl
theorem exS_setTrue (v : _) (p : _) (src : _) (sep : _) (ρ : Ro) : exS C K (.setTrue v p src sep) ρ = (match evX C K ρ src with
    | some x => (match itemsD x with
      | some (d :: ds) => (match compD (fun d => match evX C K (upd ρ p (.val d)) (.meth "startswith" (.var p) [sep]) with | some y => some (some y) | none => none) (d :: ds) with
        | some out => if out.all (fun y => match y with | .bool true => true | _ => false) then some (.next, upd ρ v (.val (.bool true))) else none
        | none => none)
      | _ => none)
    | none => none) := rfl
set_option tactic.hygienic true in
theorem exS_unpack (vs : _) (e : _) (ρ : Ro) : exS C K (.unpack vs e) ρ = (match evX C K ρ e with
    | some d => (match unpackD vs d ρ with | some ρ' => some (.next, ρ') | none => none)
    | none => none) := rfl
set_option tactic.hygienic true in
theorem exS_swap (vs : _) (es : _) (ρ : Ro) : exS C K (.swap vs es) ρ = (match evXs C K ρ es with
    | some ds => (match bindAll vs.reverse ds.reverse ρ with | some ρ' => some (.next, ρ') | none => none)
    | none => none) := rfl
set_option tactic.hygienic true in
theorem exS_swapOwn (v : _) (w : _) (e : _) (ρ : Ro) : exS C K (.swapOwn v w e) ρ = (match evX C K ρ e with | some d => some (.next, upd (upd ρ w (.val d)) v (.own [])) | none => none) := rfl
set_option tactic.hygienic true in
theorem exS_swapComp (v : _) (w : _) (k : _) (ρ : Ro) : exS C K (.swapComp v w k) ρ = (match evX C K ρ k with | some d => some (.next, upd (upd ρ w (.cmp d)) v (.val (.list []))) | none => none) := rfl
theorem exS_newOwn (v : _) (ρ : Ro) : exS C K (.newOwn v) ρ = (some (.next, upd ρ v (.own []))) := rfl
theorem exS_freeze (w : _) (v : _) (ρ : Ro) : exS C K (.freeze w v) ρ = (match ρ v with
    | .own ds => some (.next, upd (upd ρ v .no) w (.val (.list ds)))
    | _ => none) := rfl
set_option tactic.hygienic true in
theorem exS_append (v : _) (e : _) (ρ : Ro) : exS C K (.append v e) ρ = (match evX C K ρ e with
    | some d => (match ρ v with | .own ds => if ds.length < 1048576 then some (.next, upd ρ v (.own (ds ++ [d]))) else none | _ => none)
    | none => none) := rfl
set_option tactic.hygienic true in
theorem exS_pop (v : _) (ρ : Ro) : exS C K (.pop v) ρ = (match ρ v with
    | .own ds => (match ds.getLast? with | some (.str _) => some (.next, upd ρ v (.own ds.dropLast)) | _ => none)
    | _ => none) := rfl
theorem exS_aug (v : _) (e : _) (ρ : Ro) : exS C K (.aug v e) ρ = (match ρ v with
    | .val x => (match evX C K ρ e with
      | some y => (match x, y with
        | .str a, .str b => if a.length + b.length ≤ sizeLine then some (.next, upd ρ v (.val (.str (a ++ b)))) else none
        | _, _ => none)
      | none => none)
    | _ => none) := rfl
theorem exS_ite (t : _) (a : _) (b : _) (ρ : Ro) : exS C K (.ite t a b) ρ = (match evT C K ρ t (evX C K ρ t) with
    | none => none
    | some true => exSs C K a ρ
    | some false => exSs C K b ρ) := rfl
theorem exS_whl (t : _) (a : _) (ρ : Ro) : exS C K (.whl t a) ρ = (whileD (fun ρ => evT C K ρ t (evX C K ρ t)) (fun ρ => exSs C K a ρ) WN ρ) := rfl
theorem exS_for1 (v : _) (src : _) (a : _) (ρ : Ro) : exS C K (.for1 v src a) ρ = (match evX C K ρ src with
    | none => none
    | some x => match itemsD x with
      | none => none
      | some ds => forD (fun d ρ => some (upd ρ v (.val d))) (fun ρ => exSs C K a ρ) ds ρ) := rfl
theorem exS_forT (vs : _) (src : _) (a : _) (ρ : Ro) : exS C K (.forT vs src a) ρ = (match evX C K ρ src with
    | none => none
    | some x => match itemsD x with
      | none => none
      | some ds => forD (fun d ρ => unpackD vs d ρ) (fun ρ => exSs C K a ρ) ds ρ) := rfl
theorem exS_forR (v : _) (lo : _) (hi : _) (a : _) (ρ : Ro) : exS C K (.forR v lo hi a) ρ = (match evX C K ρ lo with
    | none => none
    | some l => match evX C K ρ hi with
      | none => none
      | some h => match rangeD l h with
        | none => none
        | some ds => forD (fun d ρ => some (upd ρ v (.val d))) (fun ρ => exSs C K a ρ) ds ρ) := rfl
theorem exS_forE (i : _) (v : _) (src : _) (a : _) (ρ : Ro) : exS C K (.forE i v src a) ρ = (match evX C K ρ src with
    | none => none
    | some x => match x with
      | .list ds => forD (fun d ρ => unpackD [i, v] d ρ) (fun ρ => exSs C K a ρ) (enumD 0 ds) ρ
      | _ => none) := rfl
theorem exS_ret (e : _) (ρ : Ro) : exS C K (.ret e) ρ = (match evX C K ρ e with | some d => some (.ret d, ρ) | none => none) := rfl
theorem exS_brk  (ρ : Ro) : exS C K (.brk) ρ = (some (.brk, ρ)) := rfl
theorem exS_cont  (ρ : Ro) : exS C K (.cont) ρ = (some (.cont, ρ)) := rfl
theorem exS_try (a : _) (ρ : Ro) : exS C K (.try_ a) ρ = (exSs C K a ρ) := rfl
theorem exS_dead  (ρ : Ro) : exS C K (.dead) ρ = (none) := rfl
end
theorem opND {β : Type} {o : Option (PyData)} {f : PyData → Option β} {d : β} {P : Prop} (h : (match o with | none => none | some x => f x) = some d) (g : ∀ x, o = some x → f x = some d → P) : P := by
  cases o with
  | none => exact nos h
  | some x => exact g x rfl h
theorem opSD {β : Type} {o : Option (PyData)} {f : PyData → β} {d : β} {P : Prop} (h : (match o with | some x => some (f x) | none => none) = some d) (g : ∀ x, o = some x → f x = d → P) : P := by
  cases o with
  | none => exact nos h
  | some x => exact g x rfl (Option.some.inj h)
theorem opNL {β : Type} {o : Option (List PyData)} {f : List PyData → Option β} {d : β} {P : Prop} (h : (match o with | none => none | some x => f x) = some d) (g : ∀ x, o = some x → f x = some d → P) : P := by
  cases o with
  | none => exact nos h
  | some x => exact g x rfl h
theorem opSL {β : Type} {o : Option (List PyData)} {f : List PyData → β} {d : β} {P : Prop} (h : (match o with | some x => some (f x) | none => none) = some d) (g : ∀ x, o = some x → f x = d → P) : P := by
  cases o with
  | none => exact nos h
  | some x => exact g x rfl (Option.some.inj h)
theorem opNR {β : Type} {o : Option Ro} {f : Ro → Option β} {d : β} {P : Prop} (h : (match o with | none => none | some x => f x) = some d) (g : ∀ x, o = some x → f x = some d → P) : P := by
  cases o with
  | none => exact nos h
  | some x => exact g x rfl h
theorem opSR {β : Type} {o : Option Ro} {f : Ro → β} {d : β} {P : Prop} (h : (match o with | some x => some (f x) | none => none) = some d) (g : ∀ x, o = some x → f x = d → P) : P := by
  cases o with
  | none => exact nos h
  | some x => exact g x rfl (Option.some.inj h)
theorem oV {β : Type} {o : AV} {f : PyData → Option β} {d : β} {P : Prop} (h : (match o with | .val x => f x | _ => none) = some d) (g : ∀ x, o = .val x → f x = some d → P) : P := by
  cases o <;> first | exact nos h | exact g _ rfl h
theorem oC {β : Type} {o : AV} {f : PyData → Option β} {d : β} {P : Prop} (h : (match o with | .cmp x => f x | _ => none) = some d) (g : ∀ x, o = .cmp x → f x = some d → P) : P := by
  cases o <;> first | exact nos h | exact g _ rfl h
theorem oO {β : Type} {o : AV} {f : List PyData → Option β} {d : β} {P : Prop} (h : (match o with | .own x => f x | _ => none) = some d) (g : ∀ x, o = .own x → f x = some d → P) : P := by
  cases o <;> first | exact nos h | exact g _ rfl h
theorem oI {β : Type} {o : Option PyData} {f : Int → Option β} {d : β} {P : Prop} (h : (match o with | some (.int x) => f x | _ => none) = some d) (g : ∀ x, o = some (.int x) → f x = some d → P) : P := by
  cases o with
  | none => exact nos h
  | some o => cases o <;> first | exact nos h | exact g _ rfl h
theorem oT {β : Type} {o : Option PyData} {f : Str → Option β} {d : β} {P : Prop} (h : (match o with | some (.str x) => f x | _ => none) = some d) (g : ∀ x, o = some (.str x) → f x = some d → P) : P := by
  cases o with
  | none => exact nos h
  | some o => cases o <;> first | exact nos h | exact g _ rfl h
theorem opS2D {β : Type} {o : Option (PyData)} {f : PyData → Option β} {d : β} {P : Prop} (h : (match o with | some x => f x | none => none) = some d) (g : ∀ x, o = some x → f x = some d → P) : P := by
  cases o with
  | none => exact nos h
  | some x => exact g x rfl h
theorem opS2L {β : Type} {o : Option (List PyData)} {f : List PyData → Option β} {d : β} {P : Prop} (h : (match o with | some x => f x | none => none) = some d) (g : ∀ x, o = some x → f x = some d → P) : P := by
  cases o with
  | none => exact nos h
  | some x => exact g x rfl h
theorem opS2B {β : Type} {o : Option (Bool)} {f : Bool → Option β} {d : β} {P : Prop} (h : (match o with | some x => f x | none => none) = some d) (g : ∀ x, o = some x → f x = some d → P) : P := by
  cases o with
  | none => exact nos h
  | some x => exact g x rfl h
theorem opS2S {β : Type} {o : Option (List Str)} {f : List Str → Option β} {d : β} {P : Prop} (h : (match o with | some x => f x | none => none) = some d) (g : ∀ x, o = some x → f x = some d → P) : P := by
  cases o with
  | none => exact nos h
  | some x => exact g x rfl h
theorem and2 {a b : Bool} {P : Prop} (g : a = true → b = true → P) (h : (a && b) = true) : P := g (Bool.and_eq_true_iff.mp h).1 (Bool.and_eq_true_iff.mp h).2
theorem and3 {a b c : Bool} {P : Prop} (g : a = true → b = true → c = true → P) (h : (a && b && c) = true) : P := and2 (fun h1 h2 => and2 (fun h3 h4 => g h3 h4 h2) h1) h
theorem and4 {a b c d : Bool} {P : Prop} (g : a = true → b = true → c = true → d = true → P) (h : (a && b && c && d) = true) : P := and2 (fun h1 h2 => and3 (fun h3 h4 h5 => g h3 h4 h5 h2) h1) h
theorem and5 {a b c d e : Bool} {P : Prop} (g : a = true → b = true → c = true → d = true → e = true → P) (h : (a && b && c && d && e) = true) : P := and2 (fun h1 h2 => and4 (fun h3 h4 h5 h6 => g h3 h4 h5 h6 h2) h1) h
theorem and6 {a b c d e f : Bool} {P : Prop} (g : a = true → b = true → c = true → d = true → e = true → f = true → P) (h : (a && b && c && d && e && f) = true) : P := and2 (fun h1 h2 => and5 (fun h3 h4 h5 h6 h7 => g h3 h4 h5 h6 h7 h2) h1) h
theorem and7 {a b c d e f i : Bool} {P : Prop} (g : a = true → b = true → c = true → d = true → e = true → f = true → i = true → P) (h : (a && b && c && d && e && f && i) = true) : P := and2 (fun h1 h2 => and6 (fun h3 h4 h5 h6 h7 h8 => g h3 h4 h5 h6 h7 h8 h2) h1) h
/-! more laws, all by rfl: so the equation lemmas, which are big, are never made -/
section
variable (C : String → List PyData → Option PyData) (K : PyData → PyData → PyData → Option PyData)
theorem evXs_nil (ρ : Ro) : evXs C K ρ [] = some [] := rfl
theorem evXs_cons (ρ : Ro) (x : X) (xs : List X) : evXs C K ρ (x :: xs) = (match evX C K ρ x with | none => none | some d => match evXs C K ρ xs with | none => none | some ds => some (d :: ds)) := rfl
theorem evB_nil (ρ : Ro) (k : Bool) : evB C K ρ k [] = none := rfl
theorem evB_one (ρ : Ro) (k : Bool) (x : X) : evB C K ρ k [x] = evX C K ρ x := rfl
theorem evB_cons (ρ : Ro) (k : Bool) (x y : X) (ys : List X) : evB C K ρ k (x :: y :: ys) = (match evX C K ρ x with
      | none => none
      | some d => match truthyD d with
        | none => none
        | some b => if b = k then evB C K ρ k (y :: ys) else some d) := rfl
theorem evTs_nil (ρ : Ro) (k : Bool) : evTs C K ρ k [] = some k := rfl
theorem evTs_cons (ρ : Ro) (k : Bool) (x : X) (xs : List X) : evTs C K ρ k (x :: xs) = (match evT C K ρ x (evX C K ρ x) with
    | none => none
    | some b => if b = k then evTs C K ρ k xs else some b) := rfl
theorem evT_nil (ρ : Ro) (o : Option PyData) : evT C K ρ .nil o = some true := rfl
theorem evT_not (ρ : Ro) (a : X) (o : Option PyData) : evT C K ρ (.not a) o = (match evT C K ρ a (evX C K ρ a) with | some b => some (!b) | none => none) := rfl
theorem evT_bop (ρ : Ro) (k : Bool) (xs : List X) (o : Option PyData) : evT C K ρ (.bop k xs) o = evTs C K ρ k xs := rfl
theorem evT_ite (ρ : Ro) (a b c : X) (o : Option PyData) : evT C K ρ (.ite a b c) o = none := rfl
theorem evT_var (ρ : Ro) (v : String) (o : Option PyData) : evT C K ρ (.var v) o = (match ρ v with | .val d => truthyD d | .own ds => some (ds.length != 0) | _ => none) := rfl
theorem evT_cmp (ρ : Ro) (o : Cm) (a b : X) (d : PyData) : evT C K ρ (.cmp o a b) (some d) = truthyD d := rfl
theorem evT_int (ρ : Ro) (n : Int) (d : PyData) : evT C K ρ (.int n) (some d) = truthyD d := rfl
theorem evT_str (ρ : Ro) (n : String) (d : PyData) : evT C K ρ (.str n) (some d) = truthyD d := rfl
theorem evT_bool (ρ : Ro) (n : Bool) (d : PyData) : evT C K ρ (.bool n) (some d) = truthyD d := rfl
theorem evT_bin (ρ : Ro) (o : Op2) (a b : X) (d : PyData) : evT C K ρ (.bin o a b) (some d) = truthyD d := rfl
theorem evT_idx (ρ : Ro) (a b : X) (d : PyData) : evT C K ρ (.idx a b) (some d) = truthyD d := rfl
theorem evT_slc (ρ : Ro) (a b c : X) (d : PyData) : evT C K ρ (.slc a b c) (some d) = truthyD d := rfl
theorem evT_list (ρ : Ro) (xs : List X) (d : PyData) : evT C K ρ (.list xs) (some d) = truthyD d := rfl
theorem evT_call (ρ : Ro) (f : String) (xs : List X) (d : PyData) : evT C K ρ (.call f xs) (some d) = truthyD d := rfl
theorem evT_bi (ρ : Ro) (f : String) (xs : List X) (d : PyData) : evT C K ρ (.bi f xs) (some d) = truthyD d := rfl
theorem evT_meth (ρ : Ro) (m : String) (o : X) (xs : List X) (d : PyData) : evT C K ρ (.meth m o xs) (some d) = truthyD d := rfl
theorem evT_isBytes (ρ : Ro) (a : X) (d : PyData) : evT C K ρ (.isBytes a) (some d) = truthyD d := rfl
theorem evT_cmpK (ρ : Ro) (a b c : X) (d : PyData) : evT C K ρ (.cmpK a b c) (some d) = truthyD d := rfl
theorem evT_cmpV (ρ : Ro) (v : String) (b c : X) (d : PyData) : evT C K ρ (.cmpV v b c) (some d) = truthyD d := rfl
theorem evT_ownNotIn (ρ : Ro) (a : X) (v : String) (d : PyData) : evT C K ρ (.ownNotIn a v) (some d) = truthyD d := rfl
theorem evT_ownLen (ρ : Ro) (v : String) (d : PyData) : evT C K ρ (.ownLen v) (some d) = truthyD d := rfl
theorem exSs_nil (ρ : Ro) : exSs C K [] ρ = some (.next, ρ) := rfl
theorem exSs_cons (s : S) (r : List S) (ρ : Ro) : exSs C K (s :: r) ρ = (match exS C K s ρ with
    | none => none
    | some (.next, ρ') => exSs C K r ρ'
    | some (.brk, ρ') => some (.brk, ρ')
    | some (.cont, ρ') => some (.cont, ρ')
    | some (.ret d, ρ') => some (.ret d, ρ')) := rfl
end
theorem truthyD_none : truthyD .none = some false := rfl
theorem truthyD_bool (b : Bool) : truthyD (.bool b) = some b := rfl
theorem truthyD_int (n : Int) : truthyD (.int n) = some (n != 0) := rfl
theorem truthyD_str (x : Str) : truthyD (.str x) = some (x.length != 0) := rfl
theorem truthyD_list (x : List PyData) : truthyD (.list x) = some (x.length != 0) := rfl
theorem truthyD_tuple (x : List PyData) : truthyD (.tuple x) = some (x.length != 0) := rfl
theorem shal_none (n : Nat) : shal n .none = true := by cases n <;> rfl
theorem shal_bool (n : Nat) (b : Bool) : shal n (.bool b) = true := by cases n <;> rfl
theorem shal_int (n : Nat) (b : Int) : shal n (.int b) = true := by cases n <;> rfl
theorem shal_str (n : Nat) (x : Str) : shal n (.str x) = PyData.strOk x := by cases n <;> rfl
theorem shal_list (n : Nat) (xs : List PyData) : shal (n + 1) (.list xs) = xs.all (shal n) := rfl
theorem shal_tuple (n : Nat) (xs : List PyData) : shal (n + 1) (.tuple xs) = xs.all (shal n) := rfl
theorem ltA_int (a b : Int) : ltA (.int a) (.int b) = some (decide (a < b)) := rfl
theorem ltA_str (x y : Str) : ltA (.str x) (.str y) = some (decide (x.cps.toList < y.cps.toList)) := rfl
theorem isAtom_int (a : Int) : isAtom (.int a) = true := rfl
theorem isAtom_str (a : Str) : isAtom (.str a) = true := rfl
theorem ltL_nil : ltL [] [] = some false := rfl
theorem ltL_nl (y : PyData) (ys : List PyData) : ltL [] (y :: ys) = some true := rfl
theorem ltL_nr (y : PyData) (ys : List PyData) : ltL (y :: ys) [] = some false := rfl
theorem ltL_cons (x : PyData) (xs : List PyData) (y : PyData) (ys : List PyData) : ltL (x :: xs) (y :: ys) = (if isAtom x && isAtom y then (if PyData.eqv x y then ltL xs ys else ltA x y) else none) := rfl
theorem gtL_nil : gtL [] [] = some false := rfl
theorem gtL_nl (y : PyData) (ys : List PyData) : gtL [] (y :: ys) = some false := rfl
theorem gtL_nr (y : PyData) (ys : List PyData) : gtL (y :: ys) [] = some true := rfl
theorem gtL_cons (x : PyData) (xs : List PyData) (y : PyData) (ys : List PyData) : gtL (x :: xs) (y :: ys) = (if isAtom x && isAtom y then (if PyData.eqv x y then gtL xs ys else ltA y x) else none) := rfl
theorem ltD_list (xs ys : List PyData) : ltD (.list xs) (.list ys) = ltL xs ys := rfl
theorem ltD_int (a b : Int) : ltD (.int a) (.int b) = some (decide (a < b)) := rfl
theorem ltD_str (x y : Str) : ltD (.str x) (.str y) = some (decide (x.cps.toList < y.cps.toList)) := rfl
theorem gtD_list (xs ys : List PyData) : gtD (.list xs) (.list ys) = gtL xs ys := rfl
theorem gtD_int (a b : Int) : gtD (.int a) (.int b) = some (decide (b < a)) := rfl
theorem gtD_str (x y : Str) : gtD (.str x) (.str y) = some (decide (y.cps.toList < x.cps.toList)) := rfl
theorem cmpD_eq (a b : PyData) : cmpD .eq a b = (if shal 4 a && shal 4 b then some (.bool (PyData.eqv a b)) else none) := rfl
theorem cmpD_ne (a b : PyData) : cmpD .ne a b = (if shal 4 a && shal 4 b then some (.bool (!PyData.eqv a b)) else none) := rfl
theorem cmpD_lt (a b : PyData) : cmpD .lt a b = (ltD a b).map .bool := rfl
theorem cmpD_gt (a b : PyData) : cmpD .gt a b = (gtD a b).map .bool := rfl
theorem cmpD_in (a : PyData) (xs : List PyData) : cmpD .isin a (.list xs) = (if shal 4 a && xs.all (shal 4) then some (.bool (xs.any fun y => PyData.eqv y a)) else none) := rfl
theorem cmpD_nin (a : PyData) (xs : List PyData) : cmpD .notin a (.list xs) = (if shal 4 a && xs.all (shal 4) then some (.bool (!xs.any fun y => PyData.eqv y a)) else none) := rfl
theorem binD_addI (a b : Int) : binD .add (.int a) (.int b) = some (.int (a + b)) := rfl
theorem binD_addS (x y : Str) : binD .add (.str x) (.str y) = (if x.length + y.length ≤ sizeLine then some (.str (x ++ y)) else none) := rfl
theorem binD_addL (x y : List PyData) : binD .add (.list x) (.list y) = (if x.length + y.length ≤ sizeLine then some (.list (x ++ y)) else none) := rfl
theorem binD_sub (a b : Int) : binD .sub (.int a) (.int b) = some (.int (a - b)) := rfl
theorem binD_mulI (a b : Int) : binD .mul (.int a) (.int b) = (if decide (a.natAbs < 1048576) && decide (b.natAbs < 1048576) then some (.int (a * b)) else none) := rfl
theorem binD_mulS (x : Str) (n : Int) : binD .mul (.str x) (.int n) = (if decide (0 ≤ n) && decide (x.length * n.toNat ≤ 1048576) && decide (n < 1048576) then some (.str ⟨(repL n.toNat x.cps.toList).toArray⟩) else none) := rfl
theorem binD_mulL (xs : List PyData) (n : Int) : binD .mul (.list xs) (.int n) = (if decide (0 ≤ n) && decide (xs.length * n.toNat ≤ 1048576) && decide (n < 1048576) then some (.list (repL n.toNat xs)) else none) := rfl
theorem binD_fdiv (a b : Int) : binD .fdiv (.int a) (.int b) = (if decide (0 < b) && decide (b < 1048576) then some (.int (a / b)) else none) := rfl
theorem binD_mod (a b : Int) : binD .mod (.int a) (.int b) = (if decide (0 < b) && decide (b < 1048576) then some (.int (a % b)) else none) := rfl
theorem binD_pow (a b : Int) : binD .pow (.int a) (.int b) = (if decide (a = 2) && decide (0 ≤ b) && decide (b < 64) then some (.int (2 ^ b.toNat)) else none) := rfl
theorem idxD_list (xs : List PyData) (k : Int) : idxD (.list xs) (.int k) = (if 0 ≤ k then xs[k.toNat]? else none) := rfl
theorem idxD_tup (xs : List PyData) (k : Int) : idxD (.tuple xs) (.int k) = (if 0 ≤ k then xs[k.toNat]? else none) := rfl
theorem partD_none : partD .none = some none := rfl
theorem partD_int (i : Int) : partD (.int i) = some (some i) := rfl
theorem slcD_str (x : Str) (lo hi : PyData) : slcD (.str x) lo hi = (match partD lo, partD hi with | some lo, some hi => some (.str ⟨(cutD x.cps.toList lo hi).toArray⟩) | _, _ => none) := rfl
theorem slcD_list (xs : List PyData) (lo hi : PyData) : slcD (.list xs) lo hi = (match partD lo, partD hi with | some lo, some hi => some (.list (cutD xs lo hi)) | _, _ => none) := rfl
theorem strsOf_nil : strsOf [] = some [] := rfl
theorem strsOf_cons (x : Str) (r : List PyData) : strsOf (.str x :: r) = (strsOf r).map (x :: ·) := rfl
theorem intsOf_nil : intsOf [] = some [] := rfl
theorem intsOf_cons (x : Int) (r : List PyData) : intsOf (.int x :: r) = (intsOf r).map (x :: ·) := rfl
theorem bestD_nil (lt : PyData → PyData → Option Bool) (b : PyData) : bestD lt b [] = some b := rfl
theorem bestD_cons (lt : PyData → PyData → Option Bool) (b x : PyData) (xs : List PyData) : bestD lt b (x :: xs) = (match lt x b with
    | some true => bestD lt x xs
    | some false => bestD lt b xs
    | none => none) := rfl
theorem itemsD_list (xs : List PyData) : itemsD (.list xs) = some xs := rfl
theorem itemsD_tup (xs : List PyData) : itemsD (.tuple xs) = some xs := rfl
theorem compD_nil (f : PyData → Option (Option PyData)) : compD f [] = some [] := rfl
theorem compD_cons (f : PyData → Option (Option PyData)) (d : PyData) (ds : List PyData) : compD f (d :: ds) = (match f d with
    | none => none
    | some none => compD f ds
    | some (some y) => (compD f ds).map (y :: ·)) := rfl
theorem whileD_zero (t : Ro → Option Bool) (b : Ro → Option (Fl × Ro)) (ρ : Ro) : whileD t b 0 ρ = none := rfl
theorem whileD_succ (t : Ro → Option Bool) (b : Ro → Option (Fl × Ro)) (n : Nat) (ρ : Ro) : whileD t b (n + 1) ρ = (match t ρ with
    | none => none
    | some false => some (.next, ρ)
    | some true => match b ρ with
      | none => none
      | some (.next, ρ') => whileD t b n ρ'
      | some (.cont, ρ') => whileD t b n ρ'
      | some (.brk, ρ') => some (.next, ρ')
      | some (.ret d, ρ') => some (.ret d, ρ')) := rfl
theorem forD_nil (f : PyData → Ro → Option Ro) (b : Ro → Option (Fl × Ro)) (ρ : Ro) : forD f b [] ρ = some (.next, ρ) := rfl
theorem forD_cons (f : PyData → Ro → Option Ro) (b : Ro → Option (Fl × Ro)) (d : PyData) (ds : List PyData) (ρ : Ro) : forD f b (d :: ds) ρ = (match f d ρ with
    | none => none
    | some ρ₁ => match b ρ₁ with
      | none => none
      | some (.next, ρ') => forD f b ds ρ'
      | some (.cont, ρ') => forD f b ds ρ'
      | some (.brk, ρ') => some (.next, ρ')
      | some (.ret d, ρ') => some (.ret d, ρ')) := rfl
theorem bindAll_nil (ρ : Ro) : bindAll [] [] ρ = some ρ := rfl
theorem bindAll_cons (v : String) (vs : List String) (d : PyData) (ds : List PyData) (ρ : Ro) : bindAll (v :: vs) (d :: ds) ρ = bindAll vs ds (upd ρ v (.val d)) := rfl
theorem unpackD_tup (vs : List String) (ds : List PyData) (ρ : Ro) : unpackD vs (.tuple ds) ρ = bindAll vs ds ρ := rfl
theorem enumD_nil (i : Nat) : enumD i [] = [] := rfl
theorem enumD_cons (i : Nat) (d : PyData) (ds : List PyData) : enumD i (d :: ds) = .tuple [.int i, d] :: enumD (i + 1) ds := rfl
theorem rangeD_int (a b : Int) : rangeD (.int a) (.int b) = (if decide (0 ≤ a) && decide (a < 1048576) && decide (-1048576 < b) && decide (b < 1048576) then some ((List.range (b - a).toNat).map fun i => .int (a + (i : Nat))) else none) := rfl
theorem bindP_nil (ρ : Ro) : bindP [] none [] ρ = some ρ := rfl
theorem bindP_va (w : String) (ds : List PyData) (ρ : Ro) : bindP [] (some w) ds ρ = (if ds.length < 1000 then some (upd ρ w (.val (.tuple ds))) else none) := by cases ds <;> rfl
theorem bindP_cons (p : String) (ps : List String) (va : Option String) (d : PyData) (ds : List PyData) (ρ : Ro) : bindP (p :: ps) va (d :: ds) ρ = bindP ps va ds (upd ρ p (.val d)) := by cases va <;> rfl
theorem callX_zero (T : String → Option FX) (K : PyData → PyData → PyData → Option PyData) (f : String) (args : List PyData) : callX T K 0 f args = none := rfl
theorem callX_succ (T : String → Option FX) (K : PyData → PyData → PyData → Option PyData) (n : Nat) (f : String) (args : List PyData) : callX T K (n + 1) f args = (if f = "fspath" then (match args with | [.str x] => some (.str x) | _ => none) else
    match T f with
    | none => none
    | some fx => match bindP fx.ps fx.va args (fun _ => .no) with
      | none => none
      | some ρ => match exSs (callX T K n) K fx.body ρ with
        | some (.ret d, _) => some d
        | _ => none) := rfl
theorem biD_abs (a : Int) : biD "abs" [.int a] = some (.int a.natAbs) := rfl
theorem biD_chr (a : Int) : biD "chr" [.int a] = (if decide (0 ≤ a) && decide (a < 1000) then some (.str ⟨#[a.toNat]⟩) else none) := rfl
theorem biD_lenS (x : Str) : biD "len" [.str x] = some (.int x.length) := rfl
theorem biD_lenL (x : List PyData) : biD "len" [.list x] = some (.int x.length) := rfl
theorem biD_lenT (x : List PyData) : biD "len" [.tuple x] = some (.int x.length) := rfl
theorem biD_str (a : Int) : biD "str" [.int a] = (if decide (a.natAbs < 2) then some (.str (Str.ofString (toString a))) else none) := rfl
theorem biD_tuple (xs : List PyData) : biD "tuple" [.list xs] = some (.tuple xs) := rfl
theorem biD_sum (xs : List PyData) : biD "sum" [.list xs] = (intsOf xs).map fun ns => .int ns.sum := rfl
theorem biD_min (x : PyData) (xs : List PyData) : biD "min" [.list (x :: xs)] = (if (x :: xs).all fun y => (x :: xs).all fun z => (ltD y z).isSome then bestD ltD x xs else none) := rfl
theorem biD_max (x : PyData) (xs : List PyData) : biD "max" [.list (x :: xs)] = (if (x :: xs).all fun y => (x :: xs).all fun z => (gtD y z).isSome then bestD gtD x xs else none) := rfl
theorem methD_starts (x y : Str) : methD "startswith" (.str x) [.str y] = some (.bool (Txt.startswith x y)) := rfl
theorem methD_ends (x y : Str) : methD "endswith" (.str x) [.str y] = some (.bool (Txt.endswith x y)) := rfl
theorem methD_rfind (x y : Str) : methD "rfind" (.str x) [.str y] = some (.int (Txt.rfind x y)) := rfl
theorem methD_rstrip (x y : Str) : methD "rstrip" (.str x) [.str y] = some (.str (Txt.rstripChars x y)) := rfl
theorem methD_split (x y : Str) : methD "split" (.str x) [.str y] = (if decide (y.length = 1) && decide (x.length ≤ 1048576) then some (.list ((Txt.split x y).map .str)) else none) := rfl
theorem methD_join (x : Str) (xs : List PyData) : methD "join" (.str x) [.list xs] = (match strsOf xs with
      | some ys => if decide ((ys.map (·.length)).sum + ys.length * x.length ≤ 1048576) then some (.str (Txt.join x ys)) else none
      | none => none) := rfl
end Mine
end

section
open PySem PySem.W PyProof.Rows

namespace Mine
set_option tactic.hygienic false

/-- the heap only grows -/
noncomputable def Grow (h h' : Heap) : Prop := ∀ b o, h.get? b = some o → h'.get? b = some o
theorem Grow.refl (h : Heap) : Grow h h := fun _ _ e => e
theorem Grow.trans {h₁ h₂ h₃ : Heap} (a : Grow h₁ h₂) (b : Grow h₂ h₃) : Grow h₁ h₃ := fun x o e => b x o (a x o e)
theorem Grow.push (h : Heap) (o : Obj) : Grow h (h.push o) := fun _ _ e => Heap.get?_push_of_some _ e
theorem Grow.fresh {h : Heap} {a : Addr} (ha : h.objs.size ≤ a) : h.get? a = none := by
  cases e : h.get? a with
  | none => rfl
  | some o' => exact absurd (Heap.lt_size e) (Nat.not_lt.mpr ha)

mutual
/-- the value reads the datum, by lists and tuples of the heap none of which is of ex -/
inductive Rep (h : Heap) (ex : List Addr) : Value → PyData → Prop
  | none : Rep h ex .none .none
  | bool (b : Bool) : Rep h ex (.bool b) (.bool b)
  | int (i : Int) (t : Tok) : Rep h ex (.int i t) (.int i)
  | str (x : Str) (t : Tok) : x.length ≤ sizeLine → Rep h ex (.str x t) (.str x)
  | list {a : Addr} {vs : List Value} {n : Nat} {ds : List PyData} : h.get? a = some { cls := .type "list", data := .seq vs.toArray n } → a ∉ ex → ds.length ≤ sizeLine → RepAll h ex vs ds → Rep h ex (.ref a) (.list ds)
  | tuple {a : Addr} {vs : List Value} {ds : List PyData} : IsTup h a vs.toArray → a ∉ ex → ds.length ≤ sizeLine → RepAll h ex vs ds → Rep h ex (.ref a) (.tuple ds)
inductive RepAll (h : Heap) (ex : List Addr) : List Value → List PyData → Prop
  | nil : RepAll h ex [] []
  | cons {v : Value} {vs : List Value} {d : PyData} {ds : List PyData} : Rep h ex v d → RepAll h ex vs ds → RepAll h ex (v :: vs) (d :: ds)
end

/-- all but the addresses of ex stay -/
noncomputable def Keep (ex : List Addr) (h h' : Heap) : Prop := ∀ b o, b ∉ ex → h.get? b = some o → h'.get? b = some o

mutual
/-- what must stay: the lists and tuples outside ex -/
theorem Rep.keep {h h' : Heap} {ex : List Addr} (hk : ∀ b (o : Obj), b ∉ ex → (∃ xs n, o.data = .seq xs n) → h.get? b = some o → h'.get? b = some o) :
    ∀ {v : Value} {d : PyData}, Rep h ex v d → Rep h' ex v d
  | _, _, .none => .none
  | _, _, .bool b => .bool b
  | _, _, .int i t => .int i t
  | _, _, .str x t e => .str x t e
  | _, _, .list g n l r => .list (hk _ _ n ⟨_, _, rfl⟩ g) n l (RepAll.keep hk r)
  | _, _, .tuple g n l r => .tuple (let ⟨o, e, c, k, r⟩ := g; ⟨o, hk _ _ n ⟨_, _, r⟩ e, c, k, r⟩) n l (RepAll.keep hk r)
theorem RepAll.keep {h h' : Heap} {ex : List Addr} (hk : ∀ b (o : Obj), b ∉ ex → (∃ xs n, o.data = .seq xs n) → h.get? b = some o → h'.get? b = some o) :
    ∀ {vs : List Value} {ds : List PyData}, RepAll h ex vs ds → RepAll h' ex vs ds
  | _, _, .nil => .nil
  | _, _, .cons a r => .cons (Rep.keep hk a) (RepAll.keep hk r)
end
theorem Rep.grow {h h' : Heap} {ex : List Addr} {v : Value} {d : PyData} (r : Rep h ex v d) (g : Grow h h') : Rep h' ex v d := r.keep fun _ _ _ _ e => g _ _ e
theorem RepAll.grow {h h' : Heap} {ex : List Addr} {vs : List Value} {ds : List PyData} (r : RepAll h ex vs ds) (g : Grow h h') : RepAll h' ex vs ds := r.keep fun _ _ _ _ e => g _ _ e

mutual
theorem Rep.less {h : Heap} {ex ex' : List Addr} (hs : ∀ a, a ∈ ex' → a ∈ ex) : ∀ {v : Value} {d : PyData}, Rep h ex v d → Rep h ex' v d
  | _, _, .none => .none
  | _, _, .bool b => .bool b
  | _, _, .int i t => .int i t
  | _, _, .str x t e => .str x t e
  | _, _, .list g n l r => .list g (fun m => n (hs _ m)) l (RepAll.less hs r)
  | _, _, .tuple g n l r => .tuple g (fun m => n (hs _ m)) l (RepAll.less hs r)
theorem RepAll.less {h : Heap} {ex ex' : List Addr} (hs : ∀ a, a ∈ ex' → a ∈ ex) : ∀ {vs : List Value} {ds : List PyData}, RepAll h ex vs ds → RepAll h ex' vs ds
  | _, _, .nil => .nil
  | _, _, .cons a r => .cons (Rep.less hs a) (RepAll.less hs r)
end
mutual
/-- an address that holds no list and no tuple may be put to ex -/
theorem Rep.more {h : Heap} {ex : List Addr} {a : Addr} (ha : ∀ o : Obj, (∃ xs n, o.data = .seq xs n) → h.get? a = some o → False) : ∀ {v : Value} {d : PyData}, Rep h ex v d → Rep h (a :: ex) v d
  | _, _, .none => .none
  | _, _, .bool b => .bool b
  | _, _, .int i t => .int i t
  | _, _, .str x t e => .str x t e
  | _, _, .list g n l r => .list g (fun m => by
      rcases List.mem_cons.mp m with e | m
      · subst e; exact ha _ ⟨_, _, rfl⟩ g
      · exact n m) l (RepAll.more ha r)
  | _, _, .tuple g n l r => .tuple g (fun m => by
      rcases List.mem_cons.mp m with e | m
      · subst e; obtain ⟨o, e, c, _, q⟩ := g; exact ha _ ⟨_, _, q⟩ e
      · exact n m) l (RepAll.more ha r)
theorem RepAll.more {h : Heap} {ex : List Addr} {a : Addr} (ha : ∀ o : Obj, (∃ xs n, o.data = .seq xs n) → h.get? a = some o → False) : ∀ {vs : List Value} {ds : List PyData}, RepAll h ex vs ds → RepAll h (a :: ex) vs ds
  | _, _, .nil => .nil
  | _, _, .cons x r => .cons (Rep.more ha x) (RepAll.more ha r)
end

section
variable {h : Heap} {ex : List Addr} {vs ws : List Value} {ds es : List PyData} {v : Value} {d : PyData}
theorem RepAll.length (r : RepAll h ex vs ds) : vs.length = ds.length := by
  induction vs generalizing ds with
  | nil => cases r; rfl
  | cons v vs ih =>
    cases r with
    | cons _ r => rw [List.length_cons, List.length_cons, ih r]
theorem RepAll.append (r : RepAll h ex vs ds) (k : RepAll h ex ws es) : RepAll h ex (vs ++ ws) (ds ++ es) := by
  induction vs generalizing ds with
  | nil => cases r; exact k
  | cons v vs ih =>
    cases r with
    | cons a r => exact .cons a (ih r)
theorem RepAll.one (r : Rep h ex v d) : RepAll h ex [v] [d] := .cons r .nil
theorem RepAll.get (r : RepAll h ex vs ds) {k : Nat} (hd : ds[k]? = some d) : ∃ v, vs[k]? = some v ∧ Rep h ex v d := by
  induction vs generalizing ds k with
  | nil => cases r; simp at hd
  | cons v vs ih =>
    cases r with
    | cons a r =>
      cases k with
      | zero => simp at hd; subst hd; exact ⟨v, rfl, a⟩
      | succ k => exact ih r (by simpa using hd)
theorem RepAll.getV (r : RepAll h ex vs ds) {k : Nat} (hv : vs[k]? = some v) : ∃ d, ds[k]? = some d ∧ Rep h ex v d := by
  induction vs generalizing ds k with
  | nil => simp at hv
  | cons u vs ih =>
    cases r with
    | cons a r =>
      cases k with
      | zero => simp at hv; subst hv; exact ⟨_, rfl, a⟩
      | succ k => exact ih r (by simpa using hv)
theorem RepAll.drop (r : RepAll h ex vs ds) (k : Nat) : RepAll h ex (vs.drop k) (ds.drop k) := by
  induction k generalizing vs ds with
  | zero => exact r
  | succ k ih =>
    cases r with
    | nil => exact .nil
    | cons _ r => exact ih r
theorem RepAll.take (r : RepAll h ex vs ds) (k : Nat) : RepAll h ex (vs.take k) (ds.take k) := by
  induction k generalizing vs ds with
  | zero => exact .nil
  | succ k ih =>
    cases r with
    | nil => exact .nil
    | cons a r => exact .cons a (ih r)
theorem RepAll.reverse (r : RepAll h ex vs ds) : RepAll h ex vs.reverse ds.reverse := by
  induction vs generalizing ds with
  | nil => cases r; exact .nil
  | cons v vs ih =>
    cases r with
    | cons a r => rw [List.reverse_cons, List.reverse_cons]; exact (ih r).append (.one a)
theorem RepAll.dropLast (r : RepAll h ex vs ds) : RepAll h ex vs.dropLast ds.dropLast := by
  rw [List.dropLast_eq_take, List.dropLast_eq_take, r.length]; exact r.take _
theorem RepAll.strs (r : RepAll h ex vs (ds)) {ss : List Str} (hs : strsOf ds = some ss) : ∃ l : List (Str × Tok), vs = strValues l ∧ l.map (·.1) = ss ∧ ∀ x ∈ ss, x.length ≤ sizeLine := by
  induction vs generalizing ds ss with
  | nil => cases r; simp [strsOf_nil] at hs; subst hs; exact ⟨[], rfl, rfl, fun _ hx => nomatch hx⟩
  | cons v vs ih =>
    cases r with
    | cons a r =>
      cases a with
      | str x t e =>
        simp only [strsOf_cons, Option.map_eq_some_iff] at hs
        obtain ⟨ss', h1, rfl⟩ := hs
        obtain ⟨l, rfl, rfl, hl⟩ := ih r h1
        exact ⟨(x, t) :: l, rfl, rfl, fun y hy => by
          rcases List.mem_cons.mp hy with rfl | hy
          · exact e
          · exact hl _ hy⟩
      | none => exact nos hs
      | bool => exact nos hs
      | int => exact nos hs
      | list => exact nos hs
      | tuple => exact nos hs
theorem RepAll.ofStrs {l : List (Str × Tok)} (hl : ∀ p ∈ l, p.1.length ≤ sizeLine) : RepAll h ex (strValues l) ((l.map (·.1)).map .str) := by
  induction l with
  | nil => exact .nil
  | cons p l ih => exact .cons (.str _ _ (hl p (.head _))) (ih fun q hq => hl q (.tail _ hq))
theorem RepAll.ints (r : RepAll h ex vs ds) {ns : List Int} (hs : intsOf ds = some ns) : IntsAre vs ns := by
  induction vs generalizing ds ns with
  | nil => cases r; simp [intsOf_nil] at hs; subst hs; exact .nil
  | cons v vs ih =>
    cases r with
    | cons a r =>
      cases a with
      | int x t =>
        simp only [intsOf_cons, Option.map_eq_some_iff] at hs
        obtain ⟨ss', h1, rfl⟩ := hs
        exact .cons _ _ (ih r h1)
      | _ => exact nos hs
theorem strsOf_map (ss : List Str) : strsOf (ss.map .str) = some ss := by
  induction ss with
  | nil => rfl
  | cons x ss ih => simp [strsOf_cons, ih]
theorem strsOf_eq {ds : List PyData} {ss : List Str} (hs : strsOf ds = some ss) : ds = ss.map .str := by
  induction ds generalizing ss with
  | nil => simp [strsOf_nil] at hs; subst hs; rfl
  | cons d ds ih =>
    cases d with
    | str x =>
      simp only [strsOf_cons, Option.map_eq_some_iff] at hs
      obtain ⟨ss', h1, rfl⟩ := hs
      rw [ih h1]; rfl
    | _ => exact nos hs
theorem intsOf_map (ss : List Int) : intsOf (ss.map .int) = some ss := by
  induction ss with
  | nil => rfl
  | cons x ss ih => simp [intsOf_cons, ih]
end

section
variable {h : Heap} {ex : List Addr}
theorem Rep.isList {v : Value} {ds : List PyData} (r : Rep h ex v (.list ds)) : ∃ a vs n, v = .ref a ∧ h.get? a = some { cls := .type "list", data := .seq vs.toArray n } ∧ RepAll h ex vs ds ∧ ds.length ≤ sizeLine ∧ a ∉ ex := by
  cases r with
  | list g n l r => exact ⟨_, _, _, rfl, g, r, l, n⟩
theorem Rep.isTup {v : Value} {ds : List PyData} (r : Rep h ex v (.tuple ds)) : ∃ a vs, v = .ref a ∧ IsTup h a vs.toArray ∧ RepAll h ex vs ds ∧ ds.length ≤ sizeLine ∧ a ∉ ex := by
  cases r with
  | tuple g n l r => exact ⟨_, _, rfl, g, r, l, n⟩
end
/-! eliminations: what a value is, by a look at its datum -/
section
variable {h : Heap} {ex : List Addr} {β : Type} {d : β} {y : PyData} {v : Value} {G : Value → Prop}
theorem rIE_el {k : Int → Option β} {e : Option β} (r : Rep h ex v y) (g : ∀ i t, k i = some d → G (.int i t)) (g2 : e = some d → G v) (hd : onI y k e = some d) : G v := by
  cases r with
  | int i t => exact g i t hd
  | _ => exact g2 hd
theorem rI_el {k : Int → Option β} (r : Rep h ex v y) (g : ∀ i t, k i = some d → G (.int i t)) (hd : onI y k = some d) : G v := rIE_el r g nos hd
theorem rTE_el {k : Str → Option β} {e : Option β} (r : Rep h ex v y) (g : ∀ x t, x.length ≤ sizeLine → k x = some d → G (.str x t)) (g2 : e = some d → G v) (hd : onT y k e = some d) : G v := by
  cases r with
  | str x t l => exact g x t l hd
  | _ => exact g2 hd
theorem rT_el {k : Str → Option β} (r : Rep h ex v y) (g : ∀ x t, x.length ≤ sizeLine → k x = some d → G (.str x t)) (hd : onT y k = some d) : G v := rTE_el r g nos hd
theorem rLE_el {k : List PyData → Option β} {e : Option β} (r : Rep h ex v y) (g : ∀ a vs n ds, h.get? a = some { cls := .type "list", data := .seq vs.toArray n } → a ∉ ex → ds.length ≤ sizeLine → RepAll h ex vs ds → k ds = some d → G (.ref a)) (g2 : e = some d → G v) (hd : onL y k e = some d) : G v := by
  cases r with
  | list q n l r => exact g _ _ _ _ q n l r hd
  | _ => exact g2 hd
theorem rL_el {k : List PyData → Option β} (r : Rep h ex v y) (g : ∀ a vs n ds, h.get? a = some { cls := .type "list", data := .seq vs.toArray n } → a ∉ ex → ds.length ≤ sizeLine → RepAll h ex vs ds → k ds = some d → G (.ref a)) (hd : onL y k = some d) : G v := rLE_el r g nos hd
theorem rUE_el {k : List PyData → Option β} {e : Option β} (r : Rep h ex v y) (g : ∀ a vs ds, IsTup h a vs.toArray → a ∉ ex → ds.length ≤ sizeLine → RepAll h ex vs ds → k ds = some d → G (.ref a)) (g2 : e = some d → G v) (hd : onU y k e = some d) : G v := by
  cases r with
  | tuple q n l r => exact g _ _ _ q n l r hd
  | _ => exact g2 hd
theorem rU_el {k : List PyData → Option β} (r : Rep h ex v y) (g : ∀ a vs ds, IsTup h a vs.toArray → a ∉ ex → ds.length ≤ sizeLine → RepAll h ex vs ds → k ds = some d → G (.ref a)) (hd : onU y k = some d) : G v := rUE_el r g nos hd
theorem r1_el {G : List Value → Prop} {vs : List Value} {ds : List PyData} {k : PyData → Option β} (r : RepAll h ex vs ds) (g : ∀ v y, Rep h ex v y → k y = some d → G [v]) (hd : on1 ds k = some d) : G vs := by
  cases r with
  | nil => exact nos hd
  | cons a r => cases r with
    | nil => exact g _ _ a hd
    | cons _ _ => exact nos hd
theorem on1_el {P : Prop} {ds : List PyData} {k : PyData → Option β} (g : ∀ y, k y = some d → P) (hd : on1 ds k = some d) : P := by
  cases ds with
  | nil => exact nos hd
  | cons a r => cases r with
    | nil => exact g _ hd
    | cons _ _ => exact nos hd
theorem onC_el {P : List PyData → Prop} {ds : List PyData} {k : PyData → List PyData → Option β} (g : ∀ x xs, k x xs = some d → P (x :: xs)) (hd : onC ds k = some d) : P ds := by
  cases ds with
  | nil => exact nos hd
  | cons a r => exact g _ _ hd
theorem onL_el {P : PyData → Prop} {k : List PyData → Option β} (g : ∀ xs, k xs = some d → P (.list xs)) (hd : onL y k = some d) : P y := by
  cases y with
  | list xs => exact g xs hd
  | _ => exact nos hd
theorem onI_el {P : Prop} {k : Int → Option β} (g : ∀ i, k i = some d → P) (hd : onI y k = some d) : P := by
  cases y with
  | int i => exact g i hd
  | _ => exact nos hd
theorem onIP_el {P : PyData → Prop} {k : Int → Option β} (g : ∀ i, k i = some d → P (.int i)) (hd : onI y k = some d) : P y := by
  cases y with
  | int i => exact g i hd
  | _ => exact nos hd
theorem two_el {P : Prop} {a b : Option (Option Int)} {k : Option Int → Option Int → Option β} (hd : (match a, b with | some l, some h => k l h | _, _ => none) = some d) (g : ∀ l h, a = some l → b = some h → k l h = some d → P) : P := by
  cases a with
  | none => exact nos hd
  | some l =>
    cases b with
    | none => exact nos hd
    | some h => exact g l h rfl rfl hd
theorem if_el {P : Prop} {c : Prop} [Decidable c] {a : Option β} (g : c → a = some d → P) (h : (if c then a else none) = some d) : P := by
  by_cases k : c
  · exact g k ((if_pos k).symm.trans h)
  · exact nos ((if_neg k).symm.trans h)
theorem sel_el {P : String → Prop} {f k : String} {a b : Option β} (g1 : a = some d → P k) (g2 : b = some d → P f) (h : (if f = k then a else b) = some d) : P f := by
  by_cases e : f = k
  · exact e ▸ g1 ((if_pos e).symm.trans h)
  · exact g2 ((if_neg e).symm.trans h)
end
end Mine
end

section
open PySem PySem.W PyProof.Rows

namespace Mine
set_option tactic.hygienic false

/-- a value that reads d comes out, the heap only grown -/
noncomputable def Post (s : Shared) (ex : List Addr) (d : PyData) (Q : Value → Shared → Prop) : Prop :=
  ∀ v h' tk, Grow s.heap h' → Rep h' ex v d → Q v { s with heap := h', toks := tk }
noncomputable def Old (s : Shared) (ex : List Addr) : Prop := ∀ a ∈ ex, ∃ o, s.heap.get? a = some o

theorem isList_of {h : Heap} {a : Addr} {xs : Array Value} {n : Nat} (g : h.get? a = some { cls := .type "list", data := .seq xs n }) : h.IsList a xs := ⟨_, g, rfl, _, rfl⟩

theorem foldl_append_rep {α : Type} (n : Nat) (xs : List α) : ∀ acc : Array α, (List.replicate n xs.toArray).foldl (fun x1 x2 => x1 ++ x2) acc = acc ++ (repL n xs).toArray := by
  induction n with
  | zero => intro acc; simp [repL]
  | succ n ih => intro acc; rw [List.replicate_succ, List.foldl_cons, ih]; simp [repL, List.replicate_succ]

theorem repL_len {α : Type} (n : Nat) (xs : List α) : (repL n xs).length = n * xs.length := by
  induction n with
  | zero => simp [repL]
  | succ n ih =>
    have : repL (n + 1) xs = xs ++ repL n xs := by simp [repL, List.replicate_succ]
    rw [this, List.length_append, ih, Nat.succ_mul, Nat.add_comm]

section
variable {prog : Program} {w : World} {A : Around} {E : Value → Shared → Prop} {s : Shared} {ex : List Addr} {Q : Value → Shared → Prop}

theorem Post.atom {d : PyData} {v : Value} {tk : Nat} (hQ : Post s ex d Q) (r : Rep s.heap ex v d) : Q v { s with toks := tk } := hQ v s.heap tk (Grow.refl _) r
theorem Post.to {d d' : PyData} (hQ : Post s ex d Q) (h : some d' = some d) : Post s ex d' Q := Option.some.inj h ▸ hQ
theorem Post.here {d : PyData} {v : Value} (hQ : Post s ex d Q) (r : Rep s.heap ex v d) : Q v s := hQ v s.heap s.toks (Grow.refl _) r
theorem Old.fresh (h : Old s ex) {a : Addr} (ha : s.heap.objs.size ≤ a) : a ∉ ex := fun m =>
  let ⟨_, e⟩ := h a m
  Nat.lt_irrefl _ (Nat.lt_of_lt_of_le (Heap.lt_size e) ha)
theorem Old.freshIn (h : Old s ex) {h' : Heap} (g : Grow s.heap h') : h'.objs.size ∉ ex := fun m =>
  let ⟨_, e⟩ := h _ m
  Nat.lt_irrefl _ (Heap.lt_size (g _ _ e))

theorem Post.newList {vs : List Value} {ds : List PyData} (hQ : Post s ex (.list ds) Q) (ho : Old s ex) (r : RepAll s.heap ex vs ds) (hl : ds.length ≤ sizeLine) :
    Q (.ref s.heap.objs.size) { s with heap := s.heap.push { cls := .type "list", data := .seq vs.toArray } } :=
  hQ _ _ s.toks (Grow.push _ _) (.list (Heap.get?_push_size _ rfl) (ho.fresh (Nat.le_refl _)) hl (r.grow (Grow.push _ _)))
theorem Post.newTuple {vs : List Value} {ds : List PyData} (hQ : Post s ex (.tuple ds) Q) (ho : Old s ex) (r : RepAll s.heap ex vs ds) (hl : ds.length ≤ sizeLine) :
    Q (.ref s.heap.objs.size) { s with heap := s.heap.push { cls := .type "tuple", data := .seq vs.toArray } } :=
  hQ _ _ s.toks (Grow.push _ _) (.tuple ⟨_, Heap.get?_push_size _ rfl, rfl, _, rfl⟩ (ho.fresh (Nat.le_refl _)) hl (r.grow (Grow.push _ _)))

noncomputable def opOf : Op2 → Operator
  | .add => .Add | .sub => .Sub | .mul => .Mult | .fdiv => .FloorDiv | .mod => .Mod | .pow => .Pow

theorem intBits_small {a : Int} (h : a.natAbs < 1048576) : Builtin.Int.intBits a ≤ 64 := by
  by_cases h0 : a = 0
  · subst h0; decide
  · have h1 : a.natAbs ≠ 0 := by lia
    have : a.natAbs.log2 < 20 := (Nat.log2_lt h1).mpr (by lia)
    unfold Builtin.Int.intBits
    split <;> lia



set_option tactic.hygienic true in
theorem mul_txt {x : Str} {n : Int} : Txt.mul x n = ⟨(repL n.toNat x.cps.toList).toArray⟩ := by
  unfold Txt.mul
  split
  · rename_i h1
    have : n.toNat = 0 := by lia
    rw [this]; rfl
  · split
    · rename_i h1 h2
      simp only [Bool.or_eq_true, beq_iff_eq] at h2
      rcases h2 with h2 | h2
      · subst h2; simp [repL]
      · have : x.cps.toList = [] := by
          have : x.cps.size = 0 := h2
          simpa using this
        have e2 : x.cps = #[] := by
          have : x.cps.size = 0 := h2
          exact Array.eq_empty_of_size_eq_zero this
        rw [this]
        simp [repL]
        obtain ⟨c⟩ := x
        simpa using e2
    · have := foldl_append_rep n.toNat x.cps.toList #[]
      simp only [Array.toArray_toList, Array.empty_append] at this
      exact congrArg Str.mk this

theorem mul_room {x : Str} {n : Int} (h0 : 0 ≤ n) (h1 : x.length * n.toNat ≤ 1048576) (h2 : 1 ≤ n) : ¬ (x.length : Int) > (2 ^ 63 - 1) / n := by
  have h4 : (x.length : Int) * n ≤ 1048576 := by
    have e4 : (n.toNat : Int) = n := by lia
    have e5 : ((x.length * n.toNat : Nat) : Int) ≤ ((1048576 : Nat) : Int) := Int.ofNat_le.mpr h1
    rw [Int.natCast_mul, e4] at e5; exact e5
  have h5 : (x.length : Int) ≤ 9223372036854775807 / n := by
    rw [Int.le_ediv_iff_mul_le (by lia)]
    lia
  have e6 : ((2 : Int) ^ 63 - 1) = 9223372036854775807 := by decide
  rw [e6]; lia

theorem mul_str {x : Str} {n : Int} {t u : Tok} (hl : ((0 ≤ n) ∧ x.length * n.toNat ≤ 1048576) ∧ n < 1048576) (hQ : Post s ex (.str ⟨(repL n.toNat x.cps.toList).toArray⟩) Q) :
    wpAny (model prog w) A (binaryOp .Mult (.str x t) (.int n u)) Q E s := by
  have hm : Txt.mul x n = ⟨(repL n.toNat x.cps.toList).toArray⟩ := mul_txt
  have hlen : (⟨(repL n.toNat x.cps.toList).toArray⟩ : Str).length ≤ 1048576 := by
    show (repL n.toNat x.cps.toList).toArray.size ≤ _
    rw [List.size_toArray, repL_len]
    have e3 : x.cps.toList.length = x.length := by simp [Str.length]
    rw [e3, Nat.mul_comm]; exact hl.1.2
  refine SB.mul ?_ (fun t' k => ?_)
  · refine ⟨?_, fun h1 h2 => ?_, fun h1 h2 => ?_⟩
    · have e1 : decide (n < -(2 ^ 63 : Int)) = false := decide_eq_false (by lia)
      have e2 : decide (n ≥ (2 ^ 63 : Int)) = false := decide_eq_false (by lia)
      rw [e1, e2]; rfl
    · exact mul_room hl.1.1 hl.1.2 (by lia)
    · have h9 : x.length * n.toNat ≤ 1048576 := hl.1.2
      show decide (x.length * n.toNat > sizeLine) = false
      refine decide_eq_false ?_
      rw [sizeLine_eq]
      lia
  · rw [hm]
    refine hQ.atom (.str _ _ ?_)
    exact Nat.le_trans hlen (by rw [sizeLine_eq]; lia)

set_option tactic.hygienic true in
theorem mul_list {aa : Addr} {vs : List Value} {nn : Nat} {ds : List PyData} {k : Int} {u : Tok} (ho : Old s ex) (g : s.heap.get? aa = some { cls := .type "list", data := .seq vs.toArray nn }) (r : RepAll s.heap ex vs ds)
    (hl : ((0 ≤ k) ∧ ds.length * k.toNat ≤ 1048576) ∧ k < 1048576) (hQ : Post s ex (.list (repL k.toNat ds)) Q) : wpAny (model prog w) A (binaryOp .Mult (.ref aa) (.int k u)) Q E s := by
  have hsz : vs.length * k.toNat ≤ 1048576 := by rw [r.length]; exact hl.1.2
  have hR : RepAll s.heap ex (repL k.toNat vs) (repL k.toNat ds) := by
    generalize k.toNat = j
    induction j with
    | zero => exact .nil
    | succ j ih => simp only [repL, List.replicate_succ, List.flatten_cons] at ih ⊢; exact r.append ih
  have hmk : (List.replicate (if (vs.toArray).isEmpty = true then 0 else k.toNat) vs.toArray).foldl (fun x1 x2 => x1 ++ x2) #[] = (repL k.toNat vs).toArray := by
    split
    · rename_i he
      have : vs = [] := by simpa using he
      subst this
      simp [repL]
    · rw [foldl_append_rep]; simp
  refine wpAny_binaryOp_repeat_ref (T := "list") (U := "int") (by decide) ⟨_, g, rfl⟩ (fun s' => typeIs_int s' k u) noFill_list_mul F.fills_int_mul F.slot_int_rmul repeat_list F.slot_int_index.lookup
    (call_meets F.slot_int_rmul (typeIs_int s k u) F.entry_int_rmul (F.args_int_rmul_2 _ _) (int___rmul___int_list k u aa vs.toArray nn)
      ⟨g, rfl, ⟨_, g, rfl⟩, call_meets F.slot_list_mul ⟨_, g, rfl⟩ F.entry_list_mul (F.args_list_mul_2 _ _)
        (AutoListH.list___mul___list_int_3 aa vs.toArray nn k u (by simp [Builtin.List.listFitsIndex]; lia) (by simp; lia) (by simp [Builtin.List.listTooLong, sizeLine]; lia))
        ⟨g, ?_⟩⟩)
  rw [hmk]
  exact hQ.newList ho hR (by rw [repL_len, Nat.mul_comm]; exact Nat.le_trans hl.1.2 (by rw [sizeLine_eq]; lia))

theorem bin_ok {o : Op2} {a b : Value} {x y d : PyData} (ho : Old s ex) (ra : Rep s.heap ex a x) (rb : Rep s.heap ex b y) (hd : binD o x y = some d) (hQ : Post s ex d Q) :
    wpAny (model prog w) A (binaryOp (opOf o) a b) Q E s := by
  cases o with
  | add =>
    refine rIE_el (G := fun a => wpAny (model prog w) A (binaryOp .Add a b) Q E s) ra (fun i t hd => ?_) (fun hd => ?_) hd
    · exact rI_el (G := fun b => wpAny (model prog w) A (binaryOp .Add _ b) Q E s) rb (fun j u hd => P.add_int ((hQ.to hd).atom (.int _ _))) hd
    refine rTE_el (G := fun a => wpAny (model prog w) A (binaryOp .Add a b) Q E s) ra (fun x t hx hd => ?_) (fun hd => ?_) hd
    · refine rT_el (G := fun b => wpAny (model prog w) A (binaryOp .Add _ b) Q E s) rb (fun y u hy hd => ?_) hd
      exact if_el (fun hl hd => add_str (fun t' tk => (hQ.to hd).atom (.str _ _ (by rw [Str.length_append]; exact hl))) hl) hd
    · refine rL_el (G := fun a => wpAny (model prog w) A (binaryOp .Add a b) Q E s) ra (fun a1 us n1 xs g n l r hd => ?_) hd
      refine rL_el (G := fun b => wpAny (model prog w) A (binaryOp .Add _ b) Q E s) rb (fun a2 ws n2 ys g' n' l' r' hd => ?_) hd
      refine if_el (fun hl hd => ?_) hd
      refine P.add_list g g' ?_ (by simpa [r.length, r'.length] using hl)
      have e : ∀ (u v : List Value), u.toArray ++ v.toArray = (u ++ v).toArray := fun u v => by simp
      rw [e]
      exact (hQ.to hd).newList ho (r.append r') (by simpa using hl)
  | sub =>
    refine rI_el (G := fun a => wpAny (model prog w) A (binaryOp .Sub a b) Q E s) ra (fun i t hd => ?_) hd
    exact rI_el (G := fun b => wpAny (model prog w) A (binaryOp .Sub _ b) Q E s) rb (fun j u hd => P.sub_int ((hQ.to hd).atom (.int _ _))) hd
  | mul =>
    refine rI_el (G := fun b => wpAny (model prog w) A (binaryOp .Mult a b) Q E s) rb (fun n u hd => ?_) hd
    refine rIE_el (G := fun a => wpAny (model prog w) A (binaryOp .Mult a (.int n u)) Q E s) ra (fun i t hd => ?_) (fun hd => ?_) hd
    · exact if_el (fun hl hd => P.mul_int ((hQ.to hd).atom (.int _ _)) (IntMulOk.of_left (intBits_small (of_decide_eq_true (Bool.and_eq_true_iff.mp hl).1)))) hd
    refine rTE_el (G := fun a => wpAny (model prog w) A (binaryOp .Mult a (.int n u)) Q E s) ra (fun x t hx hd => ?_) (fun hd => ?_) hd
    · exact if_el (fun hl hd => mul_str (by simpa only [Bool.and_eq_true, decide_eq_true_eq] using hl) (hQ.to hd)) hd
    · refine rL_el (G := fun a => wpAny (model prog w) A (binaryOp .Mult a (.int n u)) Q E s) ra (fun a1 us n1 xs g n l r hd => ?_) hd
      exact if_el (fun hl hd => mul_list ho g r (by simpa only [Bool.and_eq_true, decide_eq_true_eq] using hl) (hQ.to hd)) hd
  | fdiv =>
    refine rI_el (G := fun a => wpAny (model prog w) A (binaryOp .FloorDiv a b) Q E s) ra (fun i t hd => ?_) hd
    refine rI_el (G := fun b => wpAny (model prog w) A (binaryOp .FloorDiv _ b) Q E s) rb (fun j u hd => ?_) hd
    refine if_el (fun hl hd => and2 (fun h1 h2 => ?_) hl) hd
    have h1 := of_decide_eq_true h1
    have h2 := of_decide_eq_true h2
    refine floordiv_int (by lia) ?_ (.inl (PyProof.noPylong_small (by lia)))
    rw [Int.fdiv_eq_ediv_of_nonneg _ (by lia)]
    exact (hQ.to hd).atom (.int _ _)
  | mod =>
    refine rI_el (G := fun a => wpAny (model prog w) A (binaryOp .Mod a b) Q E s) ra (fun i t hd => ?_) hd
    refine rI_el (G := fun b => wpAny (model prog w) A (binaryOp .Mod _ b) Q E s) rb (fun j u hd => ?_) hd
    refine if_el (fun hl hd => and2 (fun h1 h2 => ?_) hl) hd
    have h1 := of_decide_eq_true h1
    refine mod_int (by lia) ?_
    rw [Int.fmod_eq_emod_of_nonneg _ (by lia)]
    exact (hQ.to hd).atom (.int _ _)
  | pow =>
    refine rI_el (G := fun a => wpAny (model prog w) A (binaryOp .Pow a b) Q E s) ra (fun i t hd1 => ?_) hd
    refine rI_el (G := fun b => wpAny (model prog w) A (binaryOp .Pow _ b) Q E s) rb (fun j u hd2 => ?_) hd1
    refine if_el (fun hl hd3 => and3 (fun h1 h2 h3 => ?_) hl) hd2
    obtain rfl := of_decide_eq_true h1
    have h3 := of_decide_eq_true h3
    exact pow_int_small (of_decide_eq_true h2) (by lia) (by decide) ((hQ.to hd3).atom (.int _ _))
end
end Mine
end

section
open PySem PySem.W PyProof.Rows

namespace Mine
set_option tactic.hygienic false

mutual
theorem Rep.reads {h : Heap} {ex : List Addr} : ∀ {v : Value} {d : PyData}, Rep h ex v d → ∃ as, Reads h v d as
  | _, _, .none => ⟨_, Reads.none⟩
  | _, _, .bool b => ⟨_, Reads.bool b⟩
  | _, _, .int i t => ⟨_, Reads.int i t⟩
  | _, _, .str x t _ => ⟨_, Reads.str x t⟩
  | _, _, .list g _ _ r =>
    let ⟨_, q⟩ := RepAll.reads r
    ⟨_, Reads.list g rfl rfl q⟩
  | _, _, .tuple g _ _ r =>
    let ⟨_, q⟩ := RepAll.reads r
    let ⟨_, e, c, _, k⟩ := g
    ⟨_, Reads.tuple e c k q⟩
theorem RepAll.reads {h : Heap} {ex : List Addr} : ∀ {vs : List Value} {ds : List PyData}, RepAll h ex vs ds → ∃ as, ReadsAll h vs ds as
  | _, _, .nil => ⟨_, ReadsAll.nil⟩
  | _, _, .cons a r =>
    let ⟨_, q⟩ := Rep.reads a
    let ⟨_, p⟩ := RepAll.reads r
    ⟨_, ReadsAll.cons q p⟩
end

theorem shal_lay : ∀ (n : Nat) (d : PyData), shal n d = true → d.canLay0 = true ∧ d.depth ≤ n := by
  have all : ∀ (n : Nat), (∀ d, shal n d = true → d.canLay0 = true ∧ d.depth ≤ n) → ∀ ds : List PyData, (∀ d ∈ ds, shal n d = true) → PyData.canLayAll0 ds = true ∧ PyData.depthAll ds ≤ n := by
    intro n ih ds
    induction ds with
    | nil => intro _; simp [PyData.canLayAll0, PyData.depthAll]
    | cons d ds hi =>
      intro h
      have h1 := ih d (h d (.head _))
      have h2 := hi fun e he => h e (.tail _ he)
      simp only [PyData.canLayAll0, PyData.depthAll, h1.1, h2.1, Bool.and_self, true_and]
      have a1 := h1.2
      have a2 := h2.2
      omega
  intro n
  induction n with
  | zero =>
    intro d h
    cases d with
    | none => simp [PyData.canLay0, PyData.depth]
    | bool b => simp [PyData.canLay0, PyData.depth]
    | int i => simp [PyData.canLay0, PyData.depth]
    | str x => simp [shal_str] at h; simp [PyData.canLay0, PyData.depth, h]
    | _ => exact absurd h Bool.false_ne_true
  | succ n ih =>
    intro d h
    cases d with
    | none => simp [PyData.canLay0, PyData.depth]
    | bool b => simp [PyData.canLay0, PyData.depth]
    | int i => simp [PyData.canLay0, PyData.depth]
    | str x => simp [shal_str] at h; simp [PyData.canLay0, PyData.depth, h]
    | dict kvs => exact absurd h Bool.false_ne_true
    | tuple ds =>
      have q := all n ih ds (by simpa [shal_none, shal_bool, shal_int, shal_str, shal_list, shal_tuple] using h)
      have q2 := q.2
      simp only [PyData.canLay0, PyData.depth, q.1, true_and]
      omega
    | list ds =>
      have q := all n ih ds (by simpa [shal_none, shal_bool, shal_int, shal_str, shal_list, shal_tuple] using h)
      have q2 := q.2
      simp only [PyData.canLay0, PyData.depth, q.1, true_and]
      omega
theorem shal_shaped {n : Nat} {d : PyData} (hn : n ≤ 64) (h : shal n d = true) : SeqAt.shaped d = true := by
  have q := shal_lay n d h
  unfold SeqAt.shaped
  rw [q.1, Bool.true_and]
  exact decide_eq_true (Nat.le_trans q.2 hn)
theorem shal_all {n : Nat} {ds : List PyData} (h : ds.all (shal n) = true) : PyData.canLayAll0 ds = true ∧ PyData.depthAll ds ≤ n := by
  have q := shal_lay (n + 1) (.list ds) (by simpa [shal_none, shal_bool, shal_int, shal_str, shal_list, shal_tuple] using h)
  simp only [PyData.canLay0, PyData.depth] at q
  exact ⟨q.1, by omega⟩

section
variable {prog : Program} {w : World} {A : Around} {E : Value → Shared → Prop} {s : Shared} {ex : List Addr} {Q : Value → Shared → Prop}

theorem eq_ok {a b : Value} {x y : PyData} (ra : Rep s.heap ex a x) (rb : Rep s.heap ex b y) (hx : shal 4 x = true) (hy : shal 4 y = true) (hu : A.units + 64 < cLine)
    (h : Q (.bool (PyData.eqv x y)) s) : wpAny (model prog w) A (compareOp .Eq a b) Q E s := by
  refine e1_1 (ra.reads) fun as r1 => ?_
  refine e1_1 (rb.reads) fun bs r2 => ?_
  exact SeqAt.compareEq_shaped r1 r2 (shal_shaped (by omega) hx) (shal_shaped (by omega) hy) hu h
theorem ne_ok {a b : Value} {x y : PyData} (ra : Rep s.heap ex a x) (rb : Rep s.heap ex b y) (hx : shal 4 x = true) (hy : shal 4 y = true) (hu : A.units + 64 < cLine)
    (h : Q (.bool (!PyData.eqv x y)) s) : wpAny (model prog w) A (compareOp .NotEq a b) Q E s := by
  refine e1_1 (ra.reads) fun as r1 => ?_
  refine e1_1 (rb.reads) fun bs r2 => ?_
  exact SeqAt.compareNe_shaped r1 r2 (shal_shaped (by omega) hx) (shal_shaped (by omega) hy) hu h
theorem in_ok {a b : Value} {x : PyData} {ys : List PyData} (ra : Rep s.heap ex a x) (rb : Rep s.heap ex b (.list ys)) (hx : shal 4 x = true) (hy : ys.all (shal 4) = true) (hu : A.units + 64 < cLine)
    (h : Q (.bool (ys.any fun y => PyData.eqv y x)) s) : wpAny (model prog w) A (compareOp .In a b) Q E s := by
  refine e1_1 (ra.reads) fun as r1 => ?_
  refine e1_1 (rb.reads) fun bs r2 => ?_
  have q := shal_lay 4 x hx
  have q' := shal_all hy
  exact SeqAt.in_list_reads r2 r1 q'.1 q.1 (by have := Nat.min_le_right (PyData.depthAll ys) x.depth; have := q.2; omega) h
theorem notin_ok {a b : Value} {x : PyData} {ys : List PyData} (ra : Rep s.heap ex a x) (rb : Rep s.heap ex b (.list ys)) (hx : shal 4 x = true) (hy : ys.all (shal 4) = true) (hu : A.units + 64 < cLine)
    (h : Q (.bool (!ys.any fun y => PyData.eqv y x)) s) : wpAny (model prog w) A (compareOp .NotIn a b) Q E s := by
  refine e1_1 (ra.reads) fun as r1 => ?_
  refine e1_1 (rb.reads) fun bs r2 => ?_
  have q := shal_lay 4 x hx
  have q' := shal_all hy
  exact SeqAt.notIn_list_reads r2 r1 q'.1 q.1 (by have := Nat.min_le_right (PyData.depthAll ys) x.depth; have := q.2; omega) h
/-- ys is what the object holds that is not to be touched -/
theorem notin_ownok {a : Value} {x : PyData} {b : Addr} {vs : List Value} {n : Nat} {ys : List PyData} (ra : Rep s.heap ex a x) (g : s.heap.get? b = some { cls := .type "list", data := .seq vs.toArray n }) (rb : RepAll s.heap ex vs ys)
    (hx : shal 4 x = true) (hy : ys.all (shal 4) = true) (hu : A.units + 64 < cLine)
    (h : Q (.bool (!ys.any fun y => PyData.eqv y x)) s) : wpAny (model prog w) A (compareOp .NotIn a (.ref b)) Q E s := by
  refine e1_1 (ra.reads) fun as r1 => ?_
  refine e1_1 (rb.reads) fun bs r2 => ?_
  have q := shal_lay 4 x hx
  have q' := shal_all hy
  exact SeqAt.notIn_list_reads (Reads.list g rfl rfl r2) r1 q'.1 q.1 (by have := Nat.min_le_right (PyData.depthAll ys) x.depth; have := q.2; omega) h

/-! truth -/
set_option tactic.hygienic true in
theorem truthy_ok {a : Value} {x : PyData} {b : Bool} {Q : Bool → Shared → Prop} (ra : Rep s.heap ex a x) (hb : truthyD x = some b) (hQ : ∀ tk, Q b { s with toks := tk }) : wpAny (model prog w) A (truthy a) Q E s := by
  cases ra with
  | none => cases hb; exact wpAny_pure (hQ s.toks)
  | bool c => cases hb; exact wpAny_truthy_bool (hQ s.toks)
  | int i t => cases hb; exact P.truthy_int (hQ s.toks)
  | str x t hx =>
    cases hb
    refine P.truthy_str (by rw [sizeLine_eq] at hx; omega) ?_
    have e : ((x.length : Int) != 0) = (x.length != 0) := by
      cases x.length with
      | zero => rfl
      | succ n => rw [Bool.eq_iff_iff]; simp; omega
    rw [e]; exact hQ _
  | list g n l r =>
    cases hb
    refine wpAny_truthy_list (isList_of g) (by rw [sizeLine_eq] at l; rw [List.size_toArray, r.length]; omega) ?_
    rename_i vs _ ds
    have e : (!vs.toArray.isEmpty) = (ds.length != 0) := by
      rw [← r.length]
      cases vs <;> rfl
    rw [e]; exact hQ _
  | tuple g n l r =>
    cases hb
    refine truthy_tuple g (by rw [sizeLine_eq] at l; rw [List.size_toArray, r.length]; omega) ?_
    rename_i vs ds
    have e : (!vs.toArray.isEmpty) = (ds.length != 0) := by
      rw [← r.length]
      cases vs <;> rfl
    rw [e]; exact hQ _
theorem truthy_ownok {b : Addr} {vs : List Value} {n : Nat} {Q : Bool → Shared → Prop} (g : s.heap.get? b = some { cls := .type "list", data := .seq vs.toArray n }) (l : vs.length ≤ sizeLine)
    (hQ : ∀ tk, Q (vs.length != 0) { s with toks := tk }) : wpAny (model prog w) A (truthy (.ref b)) Q E s := by
  refine wpAny_truthy_list (isList_of g) (by rw [sizeLine_eq] at l; rw [List.size_toArray]; omega) ?_
  have e : (!vs.toArray.isEmpty) = (vs.length != 0) := by cases vs <;> rfl
  rw [e]; exact hQ _

set_option tactic.hygienic true in
theorem getItem_ok {a b : Value} {x y d : PyData} (ra : Rep s.heap ex a x) (rb : Rep s.heap ex b y) (hd : idxD x y = some d) (hQ : Post s ex d Q) :
    wpAny (model prog w) A (getItem a b) Q E s := by
  refine rI_el (G := fun b => wpAny (model prog w) A (getItem a b) Q E s) rb (fun k u hd => ?_) hd
  refine rLE_el (G := fun a => wpAny (model prog w) A (getItem a (.int k u)) Q E s) ra (fun c vs n ds g h1 l r hd => ?_) (fun hd => ?_) hd
  · refine if_el (fun h0 hd => ?_) hd
    refine e1_2 (r.get hd) fun v hv rv => ?_
    have hlt := (List.getElem?_eq_some_iff.mp hd).1
    rw [sizeLine_eq] at l
    exact wpAny_getItem_list (isList_of g) h0 (by omega) (by simpa using hv) (hQ.here rv)
  · refine rU_el (G := fun a => wpAny (model prog w) A (getItem a (.int k u)) Q E s) ra (fun c vs ds g h1 l r hd => ?_) hd
    refine if_el (fun h0 hd => ?_) hd
    refine e1_2 (r.get hd) fun v hv rv => ?_
    have hlt := (List.getElem?_eq_some_iff.mp hd).1
    rw [sizeLine_eq] at l
    refine getItem_tuple (j := k.toNat) g (by omega) (by omega) ?_ (by simpa using hv) (hQ.here rv)
    unfold seqIndex?
    have h1 : ¬ k < 0 := by omega
    simp only [h1, if_false, List.size_toArray, r.length]
    rw [if_pos (by simp only [Bool.and_eq_true, decide_eq_true_eq]; omega)]

theorem getLast_ok {b : Addr} {vs : List Value} {n : Nat} {u : Tok} {v : Value} (g : s.heap.get? b = some { cls := .type "list", data := .seq vs.toArray n }) (hv : vs.getLast? = some v) (h : Q v s) :
    wpAny (model prog w) A (getItem (.ref b) (.int (-1) u)) Q E s := by
  have h1 : 0 < vs.length := by
    cases vs with
    | nil => simp at hv
    | cons _ _ => simp
  refine wpAny_getItem_list_neg (isList_of g) (by omega) (by simp; omega) (by omega) ?_ h
  rw [List.getLast?_eq_getElem?] at hv
  have e : ((-1 : Int) + ((vs.toArray.size : Nat) : Int)).toNat = vs.length - 1 := by simp; omega
  rw [e]
  simpa using hv

theorem neg_ok {a : Value} {n : Int} (ra : Rep s.heap ex a (.int n)) (hQ : Post s ex (.int (-n)) Q) : wpAny (model prog w) A (unaryOp .USub a) Q E s := by
  cases ra with
  | int i t => exact P.neg_int (hQ.atom (.int _ _))

/-! slices -/
theorem part_of {h : Heap} {v : Value} {d : PyData} {k : Option Int} (r : Rep h ex v d) (hd : partD d = some k) : IsPart v k ∧ ∃ l : Option (Int × Tok), v = partValue l ∧ l.map (·.1) = k := by
  cases r with
  | none => cases hd; exact ⟨.none, none, rfl, rfl⟩
  | int i t => cases hd; exact ⟨.int i t, some (i, t), rfl, rfl⟩
  | _ => exact nos hd

theorem clamp_le (n : Nat) (i : Int) : clampD n i ≤ n := by unfold clampD; omega

theorem bounds_eq (lo hi : Option Int) (n : Nat) :
    sliceBounds lo hi none n = (((match lo with | none => 0 | some i => clampD n i : Nat) : Int), ((match hi with | none => n | some i => clampD n i : Nat) : Int), 1) := by
  unfold sliceBounds
  simp only [Option.getD_none, show (1 : Int) > 0 by decide, if_true]
  congr 1
  · cases lo with
    | none => rfl
    | some i => simp only [clampD]; split <;> omega
  · congr 1
    cases hi with
    | none => rfl
    | some i => simp only [clampD]; split <;> omega

theorem slicePick_cut (vs : List Value) (lo hi : Option Int) : slicePick vs.toArray lo hi none = (cutD vs lo hi).toArray := by
  unfold slicePick
  rw [List.size_toArray, bounds_eq]
  simp only [sliceRange_one, pick_run, cutD]
  all_goals (cases lo <;> cases hi <;> rfl)

theorem RepAll.cut {h : Heap} {vs : List Value} {ds : List PyData} (r : RepAll h ex vs ds) (lo hi : Option Int) : RepAll h ex (cutD vs lo hi) (cutD ds lo hi) := by
  unfold cutD
  rw [r.length]
  exact (r.drop _).take _
theorem cut_len {α : Type} (xs : List α) (lo hi : Option Int) : (cutD xs lo hi).length ≤ xs.length := by
  unfold cutD
  rw [List.length_take, List.length_drop]
  omega
end
end Mine
end

section
open PySem PySem.W PyProof.Rows

namespace Mine
set_option tactic.hygienic false

section
variable {prog : Program} {w : World} {A : Around} {E : Value → Shared → Prop} {s : Shared} {ex : List Addr} {Q : Value → Shared → Prop}

theorem sliceRange_cut (x : Str) (lo hi : Option Int) : (Builtin.Str.strSliceIndices lo hi 1 x.length).filterMap (x.cps[·]?) = cutD x.cps.toList lo hi := by
  have e : Builtin.Str.strSliceIndices lo hi 1 x.length = sliceRange (sliceBounds lo hi none x.length).1 (sliceBounds lo hi none x.length).2.1 1 := by
    cases lo <;> cases hi <;> rfl
  rw [e, bounds_eq]
  simp only [sliceRange_one, pick_run, cutD]
  have e2 : x.cps.toList.length = x.length := by simp [Str.length]
  rw [e2]
  all_goals (cases lo <;> cases hi <;> rfl)

set_option tactic.hygienic true in
theorem sliceIdx_len (x : Str) (lo hi : Option Int) : (Builtin.Str.strSliceIndices lo hi 1 x.length).length = (cutD x.cps.toList lo hi).length := by
  have e : Builtin.Str.strSliceIndices lo hi 1 x.length = sliceRange (sliceBounds lo hi none x.length).1 (sliceBounds lo hi none x.length).2.1 1 := by
    cases lo <;> cases hi <;> rfl
  rw [e, bounds_eq]
  simp only [sliceRange_one, cutD, List.length_map, List.length_range, List.length_take, List.length_drop]
  have e2 : x.cps.toList.length = x.length := by simp [Str.length]
  rw [e2]
  cases lo <;> cases hi <;> dsimp only <;> (try have h1 := clamp_le x.length ‹Int›) <;> (first | lia | (rename_i i j; have h1 := clamp_le x.length i; have h2 := clamp_le x.length j; lia))

set_option tactic.hygienic true in
theorem slice_ok {a vl vu : Value} {x lo hi d : PyData} {sl : Addr} (ho : Old s ex) (ra : Rep s.heap ex a x) (rl : Rep s.heap ex vl lo) (ru : Rep s.heap ex vu hi)
    (g : s.heap.get? sl = some { cls := .type "slice", data := .fields #[vl, vu, .none] }) (hd : slcD x lo hi = some d) (hQ : Post s ex d Q) :
    wpAny (model prog w) A (getItem a (.ref sl)) Q E s := by
  refine rTE_el (G := fun a => wpAny (model prog w) A (getItem a (.ref sl)) Q E s) ra (fun x t hx hd => ?_) (fun hd => ?_) hd
  · refine two_el hd fun kl ku h1 h2 hd => ?_
    have hQ := hQ.to hd
    obtain ⟨_, l, e1, hl⟩ := part_of rl h1
    obtain ⟨_, u, e2, hu⟩ := part_of ru h2
    refine wpAny_getItem_str_slice (l := l) (u := u) (st := none) ⟨_, e1 ▸ e2 ▸ g, rfl, rfl⟩ rfl ?_
    unfold sliceMade
    have e0 : slicePicked x l u none = Builtin.Str.strSliceIndices kl ku 1 x.length := by unfold slicePicked; rw [hl, hu]; rfl
    rw [e0]
    have hlen : (cutD x.cps.toList kl ku).length ≤ x.length := by
      have := cut_len x.cps.toList kl ku
      have e2 : x.cps.toList.length = x.length := by simp [Str.length]
      lia
    split
    · rename_i hw
      simp only [Bool.and_eq_true, beq_iff_eq, sliceIdx_len] at hw
      have e3 : cutD x.cps.toList kl ku = x.cps.toList := by
        have e2 : x.cps.toList.length = x.length := by simp [Str.length]
        exact ((List.take_sublist _ _).trans (List.drop_sublist _ _)).eq_of_length (by rw [e2]; exact hw.2)
      rw [e3] at hQ
      have e4 : (⟨x.cps.toList.toArray⟩ : Str) = x := by cases x; simp
      rw [e4] at hQ
      exact hQ.here (.str _ _ hx)
    · rw [sliceRange_cut]
      have h7 : (⟨(cutD x.cps.toList kl ku).toArray⟩ : Str).length ≤ sizeLine := by
        show (cutD x.cps.toList kl ku).toArray.size ≤ _
        rw [List.size_toArray]; lia
      exact ⟨h7, hQ.atom (.str _ _ h7)⟩
  · refine rL_el (G := fun a => wpAny (model prog w) A (getItem a (.ref sl)) Q E s) ra (fun c vs n ds gg nn l r hd => ?_) hd
    refine two_el hd fun kl ku h1 h2 hd => ?_
    refine e0_2 (part_of rl h1) fun p1 zz => ?_
    refine e0_2 (part_of ru h2) fun p2 zz => ?_
    refine wpAny_getItem_list_slice (isList_of gg) ⟨_, g, rfl, rfl⟩ p1 p2 .none (by simp) ?_ (by rw [List.size_toArray, r.length]; exact l)
    rw [slicePick_cut]
    exact (hQ.to hd).newList ho (r.cut kl ku) (Nat.le_trans (cut_len _ _ _) l)

/-! two lists by their order -/
theorem eqAt_atom {a b : Value} {x y : PyData} (ra : Rep s.heap ex a x) (rb : Rep s.heap ex b y) (hx : isAtom x = true) (hy : isAtom y = true) : SeqAt.EqAt A s a b (PyData.eqv x y) := by
  cases ra with
  | int i t =>
    cases rb with
    | int j u => exact SeqAt.EqAt.int_int i t j u
    | str y u _ => exact SeqAt.EqAt.int_str i t y u
    | _ => cases hy
  | str x t _ =>
    cases rb with
    | int j u => exact SeqAt.EqAt.str_int x t j u
    | str y u _ => exact SeqAt.EqAt.str_str x t y u
    | _ => cases hy
  | _ => cases hx

theorem boolTo {r r' : Bool} (h : Q (.bool r) s) (e : some r' = some r) : Q (.bool r') s := (Option.some.inj e).symm ▸ h
theorem lt_atom {a b : Value} {x y : PyData} {r : Bool} (ra : Rep s.heap ex a x) (rb : Rep s.heap ex b y) (hr : ltA x y = some r) (h : Q (.bool r) s) : wpAny (model prog w) A (richCompare .Lt a b) Q E s := by
  refine rIE_el (G := fun a => wpAny (model prog w) A (richCompare .Lt a b) Q E s) ra (fun i t hr => ?_) (fun hr => ?_) hr
  · exact rI_el (G := fun b => wpAny (model prog w) A (richCompare .Lt (.int i t) b) Q E s) rb (fun j u hr => P.lt_int (boolTo h hr)) hr
  · refine rT_el (G := fun a => wpAny (model prog w) A (richCompare .Lt a b) Q E s) ra (fun x t _ hr => ?_) hr
    exact rT_el (G := fun b => wpAny (model prog w) A (richCompare .Lt (.str x t) b) Q E s) rb (fun y u _ hr => lt_str (boolTo h hr)) hr
theorem gt_atom {a b : Value} {x y : PyData} {r : Bool} (ra : Rep s.heap ex a x) (rb : Rep s.heap ex b y) (hr : ltA y x = some r) (h : Q (.bool r) s) : wpAny (model prog w) A (richCompare .Gt a b) Q E s := by
  refine rIE_el (G := fun b => wpAny (model prog w) A (richCompare .Gt a b) Q E s) rb (fun j u hr => ?_) (fun hr => ?_) hr
  · exact rI_el (G := fun a => wpAny (model prog w) A (richCompare .Gt a (.int j u)) Q E s) ra (fun i t hr => P.gt_int (boolTo h hr)) hr
  · refine rT_el (G := fun b => wpAny (model prog w) A (richCompare .Gt a b) Q E s) rb (fun y u _ hr => ?_) hr
    exact rT_el (G := fun a => wpAny (model prog w) A (richCompare .Gt a (.str y u)) Q E s) ra (fun x t _ hr => P.gt_str (boolTo h hr)) hr
end

open AutoSeq1 (wpAny_loadPart') in
theorem lt_loop (l b : Addr) (xs ys : List Value) (n n2 : Nat) (ds es : List PyData) (ex : List Addr) (r : Bool) (k : Nat) :
    ∀ i : Nat, xs.length - i = k → ltL (ds.drop i) (es.drop i) = some r → Meets (Builtin.«list.__eq__.loop» ⟨[.ref l, .ref b, rawInt i, rawInt 0], []⟩)
      (fun A R s => s.heap.get? l = some { cls := .type "list", data := .seq xs.toArray n } ∧ s.heap.get? b = some { cls := .type "list", data := .seq ys.toArray n2 } ∧
        RepAll s.heap ex xs ds ∧ RepAll s.heap ex ys es ∧ i ≤ ds.length ∧ i ≤ es.length ∧ R (.ok (.ret (.bool r))) s) := by
  induction k with
  | zero =>
    intro i hk hr prog w A R s h
    obtain ⟨hp, g, d, tk, os⟩ := s; obtain ⟨hl, hb, hds, hes, hi1, hi2, h⟩ := h
    have n1 := hds.length
    have n2 := hes.length
    have e1 : ds.length ≤ i := by lia
    rw [List.drop_of_length_le e1] at hr
    wp_walk using wpAny_loadPart' hl, wpAny_loadPart' hb
    have hn : xs.toArray[((i : Nat) : Int).toNat]? = none := by simp; lia
    rw [hn]
    wp_walk using wpAny_loadPart' hl, wpAny_loadPart' hb
    show R (.ok (.ret (.bool (decide (xs.toArray.size < ys.toArray.size))))) _
    have hlen : decide (xs.toArray.size < ys.toArray.size) = r := by
      cases hes' : es.drop i with
      | nil =>
        rw [hes'] at hr
        have : es.length ≤ i := by
          have := congrArg List.length hes'
          simp at this; lia
        cases hr
        refine decide_eq_false ?_
        simp only [List.size_toArray]; lia
      | cons e es' =>
        rw [hes'] at hr
        have : i < es.length := by
          have := congrArg List.length hes'
          simp at this; lia
        cases hr
        first
          | (refine decide_eq_true ?_; simp only [List.size_toArray]; lia)
          | (refine decide_eq_false ?_; simp only [List.size_toArray]; lia)
    rw [hlen]; exact h
  | succ k ih =>
    intro i hk hr prog w A R s h
    obtain ⟨hp, g, d, tk, os⟩ := s; obtain ⟨hl, hb, hds, hes, hi1, hi2, h⟩ := h
    have n1 := hds.length
    have n2 := hes.length
    have hlt : i < xs.length := by lia
    have hd1 : i < ds.length := by lia
    wp_walk using wpAny_loadPart' hl, wpAny_loadPart' hb
    have hx : xs.toArray[((i : Nat) : Int).toNat]? = some xs[i] := by simp [hlt]
    rw [hx]
    obtain ⟨x, hx', rx⟩ := hds.getV (k := i) (v := xs[i]) (by simp [hlt])
    have ex1 : ds.drop i = x :: ds.drop (i + 1) := by
      rw [List.drop_eq_getElem_cons hd1]
      have : ds[i] = x := by rw [List.getElem?_eq_getElem hd1] at hx'; exact Option.some.inj hx'
      rw [this]
    rw [ex1] at hr
    by_cases hlt2 : i < ys.length
    · have hd2 : i < es.length := by lia
      have hy : ys.toArray[((i : Nat) : Int).toNat]? = some ys[i] := by simp [hlt2]
      rw [hy]
      obtain ⟨y, hy', ry⟩ := hes.getV (k := i) (v := ys[i]) (by simp [hlt2])
      have ex2 : es.drop i = y :: es.drop (i + 1) := by
        rw [List.drop_eq_getElem_cons hd2]
        have : es[i] = y := by rw [List.getElem?_eq_getElem hd2] at hy'; exact Option.some.inj hy'
        rw [this]
      rw [ex2] at hr
      rw [ltL_cons] at hr
      refine if_el (fun hat hr => ?_) hr
      · rw [Bool.and_eq_true] at hat
        refine wpAny_bind (eqAt_atom rx ry hat.1 hat.2 prog w _ _ ?_)
        by_cases heq : PyData.eqv x y = true
        · rw [if_pos heq] at hr
          rw [heq]
          have hc : ((i : Int) + 1) = ((i + 1 : Nat) : Int) := by push_cast; rfl
          wp_walk
          rw [hc]
          exact ⟨plainId_quiet MeetsSeq3.plain_eq_loop _, codeAny_builtin MeetsSeq3.entry_eq_loop (by
            rw [Around.under_plainId MeetsSeq3.plain_eq_loop _]
            exact ih (i + 1) (by lia) hr prog w A R _ ⟨hl, hb, hds, hes, hd1, hd2, h⟩)⟩
        · rw [if_neg heq] at hr
          have hne' : PyData.eqv x y = false := by simpa using heq
          rw [hne']
          wp_walk using wpAny_loadPart' hl, wpAny_loadPart' hb
          rw [hx, hy]
          show wpAny _ _ (richCompare .Lt xs[i] ys[i] >>= fun v => ret v) _ _ _
          refine wpAny_bind (lt_atom rx ry hr ?_)
          exact wpAny_pure h
    · have hn : ys.toArray[((i : Nat) : Int).toNat]? = none := by simp; lia
      rw [hn]
      have e2 : es.length ≤ i := by lia
      rw [List.drop_of_length_le e2] at hr
      wp_walk using wpAny_loadPart' hl, wpAny_loadPart' hb
      show R (.ok (.ret (.bool (decide (xs.toArray.size < ys.toArray.size))))) _
      have hlen : decide (xs.toArray.size < ys.toArray.size) = r := by
        cases hr
        first
          | (refine decide_eq_true ?_; simp only [List.size_toArray]; lia)
          | (refine decide_eq_false ?_; simp only [List.size_toArray]; lia)
      rw [hlen]; exact h

open AutoSeq1 (wpAny_loadPart') in
theorem lt_meets (l b : Addr) (xs ys : List Value) (n n2 : Nat) (ds es : List PyData) (ex : List Addr) (r : Bool) (hr : ltL ds es = some r) :
    Meets (Builtin.«list.__lt__» ⟨[.ref l, .ref b], []⟩)
      (fun A R s => s.heap.get? l = some { cls := .type "list", data := .seq xs.toArray n } ∧ s.heap.get? b = some { cls := .type "list", data := .seq ys.toArray n2 } ∧
        RepAll s.heap ex xs ds ∧ RepAll s.heap ex ys es ∧ R (.ok (.ret (.bool r))) s) := by
  intro prog w A R s h
  obtain ⟨hp, g, d, tk, os⟩ := s; obtain ⟨hl, hb, hds, hes, h⟩ := h
  have f3 := AutoSeq1.sub_list_list
  wp_walk using wpAny_loadPart' hl, wpAny_loadPart' hb
  exact ⟨plainId_quiet MeetsSeq3.plain_eq_loop _, codeAny_builtin MeetsSeq3.entry_eq_loop (by
    rw [Around.under_plainId MeetsSeq3.plain_eq_loop _]
    exact lt_loop l b xs ys n n2 ds es ex r _ 0 rfl hr prog w A R _ ⟨hl, hb, hds, hes, Nat.zero_le _, Nat.zero_le _, h⟩)⟩

section
variable {prog : Program} {w : World} {A : Around} {E : Value → Shared → Prop} {s : Shared} {ex : List Addr} {Q : Value → Shared → Prop}
theorem lt_ok {a b : Value} {x y : PyData} {r : Bool} (ra : Rep s.heap ex a x) (rb : Rep s.heap ex b y) (hr : ltD x y = some r) (hu : A.units < cLine) (h : Q (.bool r) s) : wpAny (model prog w) A (richCompare .Lt a b) Q E s := by
  refine rLE_el (G := fun a => wpAny (model prog w) A (richCompare .Lt a b) Q E s) ra (fun a1 us n1 xs g _ l r1 hr => ?_) (fun hr => lt_atom ra rb hr h) hr
  refine rL_el (G := fun b => wpAny (model prog w) A (richCompare .Lt (.ref a1) b) Q E s) rb (fun a2 ws n2 ys g' _ l' r2 hr => ?_) hr
  exact richCompare_meets_room (op := .Lt) ⟨_, g, rfl⟩ ⟨_, g', rfl⟩ F.slot_list_lt F.entry_list_lt (F.args_list_lt_2 _ _) (lt_meets _ _ _ _ _ _ _ _ ex r hr)
    ⟨g, g', r1, r2, show Value.bool r ≠ Value.notImplemented ∧ Q (.bool r) s from ⟨(fun x => nomatch x), h⟩⟩ hu
end
open AutoSeq1 (wpAny_loadPart') in
theorem gt_loop (l b : Addr) (xs ys : List Value) (n n2 : Nat) (ds es : List PyData) (ex : List Addr) (r : Bool) (k : Nat) :
    ∀ i : Nat, xs.length - i = k → gtL (ds.drop i) (es.drop i) = some r → Meets (Builtin.«list.__eq__.loop» ⟨[.ref l, .ref b, rawInt i, rawInt 4], []⟩)
      (fun A R s => s.heap.get? l = some { cls := .type "list", data := .seq xs.toArray n } ∧ s.heap.get? b = some { cls := .type "list", data := .seq ys.toArray n2 } ∧
        RepAll s.heap ex xs ds ∧ RepAll s.heap ex ys es ∧ i ≤ ds.length ∧ i ≤ es.length ∧ R (.ok (.ret (.bool r))) s) := by
  induction k with
  | zero =>
    intro i hk hr prog w A R s h
    obtain ⟨hp, g, d, tk, os⟩ := s; obtain ⟨hl, hb, hds, hes, hi1, hi2, h⟩ := h
    have n1 := hds.length
    have n2 := hes.length
    have e1 : ds.length ≤ i := by lia
    rw [List.drop_of_length_le e1] at hr
    wp_walk using wpAny_loadPart' hl, wpAny_loadPart' hb
    have hn : xs.toArray[((i : Nat) : Int).toNat]? = none := by simp; lia
    rw [hn]
    wp_walk using wpAny_loadPart' hl, wpAny_loadPart' hb
    show R (.ok (.ret (.bool (decide (xs.toArray.size > ys.toArray.size))))) _
    have hlen : decide (xs.toArray.size > ys.toArray.size) = r := by
      cases hes' : es.drop i with
      | nil =>
        rw [hes'] at hr
        have : es.length ≤ i := by
          have := congrArg List.length hes'
          simp at this; lia
        cases hr
        refine decide_eq_false ?_
        simp only [List.size_toArray]; lia
      | cons e es' =>
        rw [hes'] at hr
        have : i < es.length := by
          have := congrArg List.length hes'
          simp at this; lia
        cases hr
        first
          | (refine decide_eq_true ?_; simp only [List.size_toArray]; lia)
          | (refine decide_eq_false ?_; simp only [List.size_toArray]; lia)
    rw [hlen]; exact h
  | succ k ih =>
    intro i hk hr prog w A R s h
    obtain ⟨hp, g, d, tk, os⟩ := s; obtain ⟨hl, hb, hds, hes, hi1, hi2, h⟩ := h
    have n1 := hds.length
    have n2 := hes.length
    have hlt : i < xs.length := by lia
    have hd1 : i < ds.length := by lia
    wp_walk using wpAny_loadPart' hl, wpAny_loadPart' hb
    have hx : xs.toArray[((i : Nat) : Int).toNat]? = some xs[i] := by simp [hlt]
    rw [hx]
    obtain ⟨x, hx', rx⟩ := hds.getV (k := i) (v := xs[i]) (by simp [hlt])
    have ex1 : ds.drop i = x :: ds.drop (i + 1) := by
      rw [List.drop_eq_getElem_cons hd1]
      have : ds[i] = x := by rw [List.getElem?_eq_getElem hd1] at hx'; exact Option.some.inj hx'
      rw [this]
    rw [ex1] at hr
    by_cases hlt2 : i < ys.length
    · have hd2 : i < es.length := by lia
      have hy : ys.toArray[((i : Nat) : Int).toNat]? = some ys[i] := by simp [hlt2]
      rw [hy]
      obtain ⟨y, hy', ry⟩ := hes.getV (k := i) (v := ys[i]) (by simp [hlt2])
      have ex2 : es.drop i = y :: es.drop (i + 1) := by
        rw [List.drop_eq_getElem_cons hd2]
        have : es[i] = y := by rw [List.getElem?_eq_getElem hd2] at hy'; exact Option.some.inj hy'
        rw [this]
      rw [ex2] at hr
      rw [gtL_cons] at hr
      refine if_el (fun hat hr => ?_) hr
      · rw [Bool.and_eq_true] at hat
        refine wpAny_bind (eqAt_atom rx ry hat.1 hat.2 prog w _ _ ?_)
        by_cases heq : PyData.eqv x y = true
        · rw [if_pos heq] at hr
          rw [heq]
          have hc : ((i : Int) + 1) = ((i + 1 : Nat) : Int) := by push_cast; rfl
          wp_walk
          rw [hc]
          exact ⟨plainId_quiet MeetsSeq3.plain_eq_loop _, codeAny_builtin MeetsSeq3.entry_eq_loop (by
            rw [Around.under_plainId MeetsSeq3.plain_eq_loop _]
            exact ih (i + 1) (by lia) hr prog w A R _ ⟨hl, hb, hds, hes, hd1, hd2, h⟩)⟩
        · rw [if_neg heq] at hr
          have hne' : PyData.eqv x y = false := by simpa using heq
          rw [hne']
          wp_walk using wpAny_loadPart' hl, wpAny_loadPart' hb
          rw [hx, hy]
          show wpAny _ _ (richCompare .Gt xs[i] ys[i] >>= fun v => ret v) _ _ _
          refine wpAny_bind (gt_atom rx ry hr ?_)
          exact wpAny_pure h
    · have hn : ys.toArray[((i : Nat) : Int).toNat]? = none := by simp; lia
      rw [hn]
      have e2 : es.length ≤ i := by lia
      rw [List.drop_of_length_le e2] at hr
      wp_walk using wpAny_loadPart' hl, wpAny_loadPart' hb
      show R (.ok (.ret (.bool (decide (xs.toArray.size > ys.toArray.size))))) _
      have hlen : decide (xs.toArray.size > ys.toArray.size) = r := by
        cases hr
        first
          | (refine decide_eq_true ?_; simp only [List.size_toArray]; lia)
          | (refine decide_eq_false ?_; simp only [List.size_toArray]; lia)
      rw [hlen]; exact h

open AutoSeq1 (wpAny_loadPart') in
theorem gt_meets (l b : Addr) (xs ys : List Value) (n n2 : Nat) (ds es : List PyData) (ex : List Addr) (r : Bool) (hr : gtL ds es = some r) :
    Meets (Builtin.«list.__gt__» ⟨[.ref l, .ref b], []⟩)
      (fun A R s => s.heap.get? l = some { cls := .type "list", data := .seq xs.toArray n } ∧ s.heap.get? b = some { cls := .type "list", data := .seq ys.toArray n2 } ∧
        RepAll s.heap ex xs ds ∧ RepAll s.heap ex ys es ∧ R (.ok (.ret (.bool r))) s) := by
  intro prog w A R s h
  obtain ⟨hp, g, d, tk, os⟩ := s; obtain ⟨hl, hb, hds, hes, h⟩ := h
  have f3 := AutoSeq1.sub_list_list
  wp_walk using wpAny_loadPart' hl, wpAny_loadPart' hb
  exact ⟨plainId_quiet MeetsSeq3.plain_eq_loop _, codeAny_builtin MeetsSeq3.entry_eq_loop (by
    rw [Around.under_plainId MeetsSeq3.plain_eq_loop _]
    exact gt_loop l b xs ys n n2 ds es ex r _ 0 rfl hr prog w A R _ ⟨hl, hb, hds, hes, Nat.zero_le _, Nat.zero_le _, h⟩)⟩

section
variable {prog : Program} {w : World} {A : Around} {E : Value → Shared → Prop} {s : Shared} {ex : List Addr} {Q : Value → Shared → Prop}
theorem gt_ok {a b : Value} {x y : PyData} {r : Bool} (ra : Rep s.heap ex a x) (rb : Rep s.heap ex b y) (hr : gtD x y = some r) (hu : A.units < cLine) (h : Q (.bool r) s) : wpAny (model prog w) A (richCompare .Gt a b) Q E s := by
  refine rLE_el (G := fun a => wpAny (model prog w) A (richCompare .Gt a b) Q E s) ra (fun a1 us n1 xs g _ l r1 hr => ?_) (fun hr => gt_atom ra rb hr h) hr
  refine rL_el (G := fun b => wpAny (model prog w) A (richCompare .Gt (.ref a1) b) Q E s) rb (fun a2 ws n2 ys g' _ l' r2 hr => ?_) hr
  exact richCompare_meets_room (op := .Gt) ⟨_, g, rfl⟩ ⟨_, g', rfl⟩ F.slot_list_gt F.entry_list_gt (F.args_list_gt_2 _ _) (gt_meets _ _ _ _ _ _ _ _ ex r hr)
    ⟨g, g', r1, r2, show Value.bool r ≠ Value.notImplemented ∧ Q (.bool r) s from ⟨(fun x => nomatch x), h⟩⟩ hu
end

section
variable {prog : Program} {w : World} {A : Around} {E : Value → Shared → Prop} {s : Shared} {ex : List Addr} {Q : Value → Shared → Prop}
noncomputable def cmOf : Cm → CmpOp
  | .eq => .Eq | .ne => .NotEq | .lt => .Lt | .gt => .Gt | .isin => .In | .notin => .NotIn
theorem cmp_ok {o : Cm} {a b : Value} {x y d : PyData} (ra : Rep s.heap ex a x) (rb : Rep s.heap ex b y) (hd : cmpD o x y = some d) (hu : A.units + 64 < cLine) (hQ : Post s ex d Q) :
    wpAny (model prog w) A (compareOp (cmOf o) a b) Q E s := by
  cases o with
  | eq => exact if_el (fun hs hd => and2 (fun h1 h2 => eq_ok ra rb h1 h2 hu ((hQ.to hd).here (.bool _))) hs) hd
  | ne => exact if_el (fun hs hd => and2 (fun h1 h2 => ne_ok ra rb h1 h2 hu ((hQ.to hd).here (.bool _))) hs) hd
  | lt =>
    refine e1_2 (Option.map_eq_some_iff.mp hd) fun r hr e => ?_
    exact lt_ok ra rb hr (by lia) ((hQ.to (congrArg some e)).here (.bool _))
  | gt =>
    refine e1_2 (Option.map_eq_some_iff.mp hd) fun r hr e => ?_
    exact gt_ok ra rb hr (by lia) ((hQ.to (congrArg some e)).here (.bool _))
  | isin => exact onL_el (P := fun y => Rep s.heap ex b y → wpAny (model prog w) A (compareOp .In a b) Q E s) (fun ys hd rb => if_el (fun hs hd => and2 (fun h1 h2 => in_ok ra rb h1 h2 hu ((hQ.to hd).here (.bool _))) hs) hd) hd rb
  | notin => exact onL_el (P := fun y => Rep s.heap ex b y → wpAny (model prog w) A (compareOp .NotIn a b) Q E s) (fun ys hd rb => if_el (fun hs hd => and2 (fun h1 h2 => notin_ok ra rb h1 h2 hu ((hQ.to hd).here (.bool _))) hs) hd) hd rb
end
end Mine
end

section
open PySem PySem.W PyProof.Rows

namespace Mine
set_option tactic.hygienic false

/-! sorted -/
theorem insS_perm (x : Str) : ∀ ys : List Str, (insS x ys).Perm (x :: ys)
  | [] => .refl _
  | y :: ys => by
    unfold insS
    split
    · exact .refl _
    · exact ((insS_perm x ys).cons y).trans (.swap _ _ _)
theorem sortS_perm : ∀ xs : List Str, (sortS xs).Perm xs
  | [] => .refl _
  | x :: xs => (insS_perm x _).trans ((sortS_perm xs).cons x)
noncomputable def leS (a b : Str) : Prop := a.cps.toList ≤ b.cps.toList
set_option tactic.hygienic true in
theorem insS_sorted (x : Str) : ∀ ys : List Str, ys.Pairwise leS → (insS x ys).Pairwise leS
  | [], _ => by simp [insS]
  | y :: ys, h => by
    unfold insS
    split
    · rename_i hlt
      refine List.pairwise_cons.mpr ⟨fun z hz => ?_, h⟩
      rcases List.mem_cons.mp hz with rfl | hz
      · exact List.le_of_lt hlt
      · exact List.le_trans (List.le_of_lt hlt) (List.rel_of_pairwise_cons h hz)
    · rename_i hge
      refine List.pairwise_cons.mpr ⟨fun z hz => ?_, insS_sorted x ys (List.pairwise_cons.mp h).2⟩
      rcases List.mem_cons.mp ((insS_perm x ys).mem_iff.mp hz) with rfl | hz
      · exact List.not_lt.mp hge
      · exact List.rel_of_pairwise_cons h hz
theorem sortS_sorted : ∀ xs : List Str, (sortS xs).Pairwise leS
  | [] => .nil
  | x :: xs => insS_sorted x _ (sortS_sorted xs)
theorem risingS_pairwise : ∀ (p : Str) (l : List Str), risingS p l = true → (p :: l).Pairwise leS
  | p, [], _ => by simp
  | p, x :: r, h => by
    simp only [risingS, Bool.and_eq_true, Bool.not_eq_true'] at h
    have h2 := risingS_pairwise x r h.2
    have h1 : leS p x := by
      have := h.1
      rw [ltCps_eq] at this
      exact List.not_lt.mp (of_decide_eq_false this)
    refine List.pairwise_cons.mpr ⟨fun z hz => ?_, h2⟩
    rcases List.mem_cons.mp hz with rfl | hz
    · exact h1
    · exact List.le_trans h1 (List.rel_of_pairwise_cons h2 hz)
theorem sortedS_pairwise (l : List Str) (h : sortedS l = true) : l.Pairwise leS := by
  cases l with
  | nil => exact .nil
  | cons x r => exact risingS_pairwise x r h
theorem leS_antisymm {a b : Str} (h1 : leS a b) (h2 : leS b a) : a = b := by
  have : a.cps.toList = b.cps.toList := List.le_antisymm h1 h2
  cases a; cases b
  simpa using this
theorem sortS_unique {ss ss' : List Str} (hp : ss'.Perm ss) (hs : sortedS ss' = true) : ss' = sortS ss :=
  List.Perm.eq_of_pairwise (fun _ _ _ _ h1 h2 => leS_antisymm h1 h2) (sortedS_pairwise _ hs) (sortS_sorted _) (hp.trans (sortS_perm _).symm)

section
variable {prog : Program} {w : World} {A : Around} {E : Value → Shared → Prop} {s : Shared} {ex : List Addr} {Q : Value → Shared → Prop}

theorem strsAre_of {vs : List Value} {ds : List PyData} {h : Heap} {ss : List Str} (r : RepAll h ex vs ds) (hs : strsOf ds = some ss) : StrsAre vs ss := by
  induction vs generalizing ds ss with
  | nil => cases r; simp [strsOf_nil] at hs; subst hs; exact .nil
  | cons v vs ih =>
    cases r with
    | cons a r =>
      cases a with
      | str x t e =>
        simp only [strsOf_cons, Option.map_eq_some_iff] at hs
        obtain ⟨ss', h1, rfl⟩ := hs
        exact .cons _ _ (ih r h1)
      | _ => exact nos hs
theorem repAll_strs {vs : List Value} {h : Heap} {ss : List Str} (hS : StrsAre vs ss) (hl : ∀ x ∈ ss, x.length ≤ sizeLine) : RepAll h ex vs (ss.map .str) := by
  induction hS with
  | nil => exact .nil
  | cons y t _ ih => exact .cons (.str _ _ (hl _ (.head _))) (ih fun x hx => hl x (.tail _ hx))
theorem strs_short {vs : List Value} {ds : List PyData} {h : Heap} {ss : List Str} (r : RepAll h ex vs ds) (hs : strsOf ds = some ss) : ∀ x ∈ ss, x.length ≤ sizeLine := by
  obtain ⟨_, _, _, q⟩ := r.strs hs
  exact q

set_option tactic.hygienic true in
theorem sorted_ok {b : Addr} {vs : List Value} {n : Nat} {ds : List PyData} {d : PyData} (ho : Old s ex) (g : s.heap.get? b = some { cls := .type "list", data := .seq vs.toArray n }) (r : RepAll s.heap ex vs ds)
    (hd : sortedD ds = some d) (hQ : Post s ex d Q) : wpAny (model prog w) A (call (.builtin "sorted") [.ref b]) Q E s := by
  unfold sortedD at hd
  split at hd
  · rename_i ss hss
    split at hd
    · rename_i h64
      cases hd
      have hS := strsAre_of r hss
      have hlen : vs.length = ss.length := by
        have e := strsOf_eq hss
        rw [r.length, e, List.length_map]
      refine sorted_strs (isList_of g) hS (by lia) fun out ss' hS' hp hs' => ?_
      have e := sortS_unique hp hs'
      subst e
      obtain ⟨ep, hget⟩ := sortedAll_at s.heap vs out
      have hgrow : Grow s.heap (sortedAll s.heap vs out) := fun b o e => sortedAll_old e
      have hl' : ∀ x ∈ sortS ss, x.length ≤ sizeLine := fun x hx => strs_short r hss x (hp.mem_iff.mp hx)
      have hget' : (sortedAll s.heap vs out).get? (s.heap.objs.size + 1) = some { cls := .type "list", data := .seq out.toList.toArray ep } := by simpa [seqObj] using hget
      refine hQ _ _ s.toks hgrow (.list hget' (ho.fresh (Nat.le_succ _)) ?_ (repAll_strs hS' hl'))
      rw [List.length_map, hp.length_eq, sizeLine_eq]; lia
    · exact nos hd
  · exact nos hd
end

end Mine
end

section
open PySem PySem.W PyProof.Rows
namespace Mine
set_option tactic.hygienic false

/-! ### min and max of a list: one loop for both, told on data -/

/-- the list in which the loop keeps what it has -/
noncomputable abbrev keepO (l : Array Value) (c : Nat) : Obj := { cls := .type "list", dict := none, data := .seq l c, slots := #[] }
noncomputable def putK (s : Shared) (S : Addr) (l : Array Value) : Shared := { s with heap := s.heap.update S (Obj.mapSeq fun _ => l) }

theorem caught {α : Type} {M : Model} {A : Around} {m : Sem α} {f : Value → Sem α} {P Q : α → Shared → Prop} {E : Value → Shared → Prop} {s : Shared} (h : ∀ E, wpAny M A m P E s) (k : ∀ a s', P a s' → Q a s') : wpAny M A (Sem.tryCatch m f) Q E s :=
  wpAny_tryCatch (wpAny_mono (h _) k fun _ _ e => e)

/-- what a loop does in a turn, by what the iterator gives and the comparison answers -/
structure Turns (prog : Program) (w : World) (id : String) (op : CmpOp) : Prop where
  fin : ∀ {A : Around} {I S : Addr} {b : Value} {c : Nat} {R : Result → Shared → Prop} {s : Shared}, s.heap.get? S = some (keepO #[b, b] c) →
    (∀ E, wpAny (model prog w) A.in1 (pyNext (.ref I)) (fun r s' => r = none ∧ ∃ c', s'.heap.get? S = some (keepO #[b, b] c') ∧ R (.ok (.ret b)) (putK s' S #[])) E s) →
    codeAny (model prog w) A (.builtin id ⟨[.ref I, .none, .ref S], []⟩) R s
  old : ∀ {A : Around} {I S : Addr} {b : Value} {c : Nat} {R : Result → Shared → Prop} {s : Shared}, s.heap.get? S = some (keepO #[b, b] c) →
    (∀ E, wpAny (model prog w) A.in1 (pyNext (.ref I)) (fun r s' => ∃ (v : Value) (t : Bool) (c' : Nat), r = some v ∧ s'.heap.get? S = some (keepO #[b, b] c') ∧
      (∀ E, wpAny (model prog w) A.in1 (richCompare op v b) (fun a s'' => a = .bool t ∧ s'' = s') E s') ∧
      codeAny (model prog w) A (.builtin id ⟨[.ref I, .none, .ref S], []⟩) R (if t then putK s' S #[v, v] else s')) E s) →
    codeAny (model prog w) A (.builtin id ⟨[.ref I, .none, .ref S], []⟩) R s
  new : ∀ {A : Around} {I S : Addr} {c : Nat} {R : Result → Shared → Prop} {s : Shared}, s.heap.get? S = some (keepO #[] c) →
    (∀ E, wpAny (model prog w) A.in1 (pyNext (.ref I)) (fun r s' => ∃ (v : Value) (c' : Nat), r = some v ∧ s'.heap.get? S = some (keepO #[] c') ∧
      codeAny (model prog w) A (.builtin id ⟨[.ref I, .none, .ref S], []⟩) R (putK s' S #[v, v])) E s) →
    codeAny (model prog w) A (.builtin id ⟨[.ref I, .none, .ref S], []⟩) R s

set_option tactic.hygienic true in
theorem min_turns (prog : Program) (w : World) : Turns prog w "min.loop" .Lt where
  fin := fun hS h => by
    refine codeAny_builtin F.entry_min_loop ?_
    rw [Around.under_plainId F.plain_min_loop _]
    wp_walk using wpAny_seqItems hS rfl, caught h
    rintro r s' ⟨rfl, c', h1, h2⟩
    wp_walk using wpAny_updateSeq h1 rfl
    exact h2
  old := fun hS h => by
    refine codeAny_builtin F.entry_min_loop ?_
    rw [Around.under_plainId F.plain_min_loop _]
    wp_walk using wpAny_seqItems hS rfl, caught h
    rintro r s' ⟨v, t, c', rfl, h1, h2, h3⟩
    have hid : (toString "min" ++ toString ".loop" : String) = "min.loop" := by decide
    wp_walk using caught (P := fun (a : Bool) s'' => a = t ∧ s'' = s')
    case h =>
      intro E'
      refine wpAny_holding (wpAny_bind (wpAny_mono (h2 _) ?_ fun _ _ e => e))
      rintro a s'' ⟨rfl, rfl⟩
      wp_walk using wpAny_truthy_bool
      exact ⟨rfl, rfl⟩
    case k =>
      rintro a s'' ⟨rfl, rfl⟩
      rw [hid]
      cases a with
      | true => wp_walk using wpAny_updateSeq h1 rfl; exact ⟨plainId_quiet F.plain_min_loop _, h3⟩
      | false => wp_walk; exact ⟨plainId_quiet F.plain_min_loop _, h3⟩
  new := fun hS h => by
    refine codeAny_builtin F.entry_min_loop ?_
    rw [Around.under_plainId F.plain_min_loop _]
    wp_walk using wpAny_seqItems hS rfl, caught h
    rintro r s' ⟨v, c', rfl, h1, h2⟩
    have hid : (toString "min" ++ toString ".loop" : String) = "min.loop" := by decide
    wp_walk using wpAny_updateSeq h1 rfl
    rw [hid]
    exact ⟨plainId_quiet F.plain_min_loop _, h2⟩
set_option tactic.hygienic true in
theorem max_turns (prog : Program) (w : World) : Turns prog w "max.loop" .Gt where
  fin := fun hS h => by
    refine codeAny_builtin F.entry_max_loop ?_
    rw [Around.under_plainId F.plain_max_loop _]
    wp_walk using wpAny_seqItems hS rfl, caught h
    rintro r s' ⟨rfl, c', h1, h2⟩
    wp_walk using wpAny_updateSeq h1 rfl
    exact h2
  old := fun hS h => by
    refine codeAny_builtin F.entry_max_loop ?_
    rw [Around.under_plainId F.plain_max_loop _]
    wp_walk using wpAny_seqItems hS rfl, caught h
    rintro r s' ⟨v, t, c', rfl, h1, h2, h3⟩
    have hid : (toString "max" ++ toString ".loop" : String) = "max.loop" := by decide
    wp_walk using caught (P := fun (a : Bool) s'' => a = t ∧ s'' = s')
    case h =>
      intro E'
      refine wpAny_holding (wpAny_bind (wpAny_mono (h2 _) ?_ fun _ _ e => e))
      rintro a s'' ⟨rfl, rfl⟩
      wp_walk using wpAny_truthy_bool
      exact ⟨rfl, rfl⟩
    case k =>
      rintro a s'' ⟨rfl, rfl⟩
      rw [hid]
      cases a with
      | true => wp_walk using wpAny_updateSeq h1 rfl; exact ⟨plainId_quiet F.plain_max_loop _, h3⟩
      | false => wp_walk; exact ⟨plainId_quiet F.plain_max_loop _, h3⟩
  new := fun hS h => by
    refine codeAny_builtin F.entry_max_loop ?_
    rw [Around.under_plainId F.plain_max_loop _]
    wp_walk using wpAny_seqItems hS rfl, caught h
    rintro r s' ⟨v, c', rfl, h1, h2⟩
    have hid : (toString "max" ++ toString ".loop" : String) = "max.loop" := by decide
    wp_walk using wpAny_updateSeq h1 rfl
    rw [hid]
    exact ⟨plainId_quiet F.plain_max_loop _, h2⟩

section
variable {prog : Program} {w : World} {A : Around} {R : Result → Shared → Prop} {id : String} {op : CmpOp} {lt : PyData → PyData → Option Bool} {H : Heap} {ex : List Addr} {l I S : Addr} {vs : List Value} {xs : List PyData}

/-- the place that the walk has reached -/
structure AtP (H : Heap) (l I : Addr) (vs : List Value) (i : Nat) (h : Heap) : Prop where
  it : h.IsListIter I l i
  ls : h.IsList l vs.toArray
  up : Grow H h

/-- what a comparison of two data answers -/
noncomputable def Answers (prog : Program) (w : World) (A : Around) (ex : List Addr) (op : CmpOp) (lt : PyData → PyData → Option Bool) : Prop :=
  ∀ (s : Shared) (a b : Value) (p q : PyData) (t : Bool) (E : Value → Shared → Prop), Rep s.heap ex a p → Rep s.heap ex b q → lt p q = some t → wpAny (model prog w) A (richCompare op a b) (fun r s' => r = .bool t ∧ s' = s) E s

variable (T : Turns prog w id op) (hh : A.handled = none) (rs : RepAll H ex vs xs) (hc : Answers prog w A.in1 ex op lt) (h1 : H.get? I = none) (h2 : H.get? S = none) (hIS : I ≠ S) (hlI : l ≠ I) (hlS : l ≠ S)
include T hh rs hc h1 h2 hIS hlI hlS

theorem put_at {i : Nat} {s : Shared} {r : Array Value} (st : AtP H l I vs i s.heap) : AtP H l I vs i (putK s S r).heap := by
  have oth : ∀ b o, b ≠ S → s.heap.get? b = some o → (putK s S r).heap.get? b = some o := fun b o hb e => (Heap.get?_update_other _ _ (Ne.symm hb)).trans e
  exact ⟨st.it.at fun o e => oth I o hIS e, st.ls.at fun o e => oth l o hlS e, fun b o e => oth b o (fun z => by rw [z, h2] at e; cases e) (st.up b o e)⟩

theorem step_at {i : Nat} {s : Shared} {c : Nat} {r : Array Value} {Q : Option Value → Shared → Prop} (st : AtP H l I vs i s.heap) (hS : s.heap.get? S = some (keepO r c)) (hi : i < xs.length)
    (k : ∀ v h' tk, (∃ d, xs[i]? = some d ∧ Rep H ex v d) → AtP H l I vs (i + 1) h' → h'.get? S = some (keepO r c) → Q (some v) { s with heap := h', toks := tk }) : ∀ E, wpAny (model prog w) A.in1 (pyNext (.ref I)) Q E s := by
  intro E
  have W := Walks.list (prog := prog) (w := w) (A := A.in1) hh I l hlI vs.toArray
  refine W.item i s _ _ (by simpa [rs.length] using hi) ⟨st.it, st.ls⟩ fun v h' tk hv st' hk => ?_
  obtain ⟨d, hd, rd⟩ := rs.getV (k := i) (v := v) (by simpa using hv)
  exact k v h' tk ⟨d, hd, rd⟩ ⟨st'.1, st'.2, fun b o e => hk b o (fun z => by rw [List.mem_singleton.mp z, h1] at e; cases e) (st.up b o e)⟩ (hk S _ (fun z => hIS (List.mem_singleton.mp z).symm) hS)

theorem pick_loop : ∀ (ys : List PyData) (i : Nat) (b : Value) (db d : PyData) (s : Shared) (c : Nat), xs.drop i = ys → i ≤ xs.length → AtP H l I vs i s.heap → s.heap.get? S = some (keepO #[b, b] c) → Rep H ex b db → bestD lt db ys = some d →
    (∀ v h' tk, Grow H h' → Rep H ex v d → R (.ok (.ret v)) { s with heap := h', toks := tk }) → codeAny (model prog w) A (.builtin id ⟨[.ref I, .none, .ref S], []⟩) R s
  | [], i, b, db, d, s, c, he, hi, st, hS, rb, hd, hR => by
    cases hd
    have hin : i = xs.length := Nat.le_antisymm hi (List.drop_eq_nil_iff.mp he)
    have W := Walks.list (prog := prog) (w := w) (A := A.in1) hh I l hlI vs.toArray
    refine T.fin hS fun E => W.done s _ _ ⟨by have := st.it; rw [hin, ← rs.length] at this; simpa using this, st.ls⟩ fun h' tk hk => ⟨rfl, c, hk S _ (fun z => hIS (List.mem_singleton.mp z).symm) hS, ?_⟩
    refine hR b _ tk (fun a o e => ?_) rb
    exact (Heap.get?_update_other _ _ (fun z : S = a => by rw [← z, h2] at e; cases e)).trans (hk a o (fun z => by rw [List.mem_singleton.mp z, h1] at e; cases e) (st.up a o e))
  | y :: ys, i, b, db, d, s, c, he, hi, st, hS, rb, hd, hR => by
    have hlt : i < xs.length := Nat.lt_of_not_le fun z => by rw [List.drop_of_length_le z] at he; cases he
    have hy : xs[i]? = some y := by
      have := congrArg (·[0]?) he
      simpa using this
    have hys : xs.drop (i + 1) = ys := by rw [← List.tail_drop, he]; rfl
    unfold bestD at hd
    cases ht : lt y db with
    | none => rw [ht] at hd; cases hd
    | some t =>
      rw [ht] at hd
      refine T.old hS (step_at T hh rs hc h1 h2 hIS hlI hlS st hS hlt fun v h' tk hv st' hS' => ⟨v, t, c, rfl, hS', fun E => ?_, ?_⟩)
      · refine e1_2 (hv) fun d' e' rv => ?_
        rw [hy] at e'; cases e'
        exact hc _ _ _ _ _ _ _ (rv.grow st'.up) (rb.grow st'.up) ht
      · refine e1_2 (hv) fun d' e' rv => ?_
        rw [hy] at e'; cases e'
        cases t with
        | true => exact pick_loop ys (i + 1) v y d _ _ hys hlt (put_at T hh rs hc h1 h2 hIS hlI hlS (s := { s with heap := h', toks := tk }) st') (Heap.get?_update_self _ hS' rfl) rv hd fun v' h'' tk' => hR v' h'' tk'
        | false => exact pick_loop ys (i + 1) b db d _ _ hys hlt st' hS' rb hd fun v' h'' tk' => hR v' h'' tk'

theorem pick_all {x d : PyData} {ys : List PyData} {s : Shared} {c : Nat} (hx : xs = x :: ys) (st : AtP H l I vs 0 s.heap) (hS : s.heap.get? S = some (keepO #[] c)) (hd : bestD lt x ys = some d)
    (hR : ∀ v h' tk, Grow H h' → Rep H ex v d → R (.ok (.ret v)) { s with heap := h', toks := tk }) : codeAny (model prog w) A (.builtin id ⟨[.ref I, .none, .ref S], []⟩) R s := by
  refine T.new hS (step_at T hh rs hc h1 h2 hIS hlI hlS st hS (by simp [hx]) fun v h' tk hv st' hS' => ⟨v, c, rfl, hS', ?_⟩)
  refine e1_2 (hv) fun d' e' rv => ?_
  rw [hx] at e'; cases e'
  exact pick_loop T hh rs hc h1 h2 hIS hlI hlS ys 1 v x d _ _ (by simp [hx]) (by simp [hx]) (put_at T hh rs hc h1 h2 hIS hlI hlS (s := { s with heap := h', toks := tk }) st') (Heap.get?_update_self _ hS' rfl) rv hd fun v' h'' tk' => hR v' h'' tk'
end

section
variable {prog : Program} {w : World} {A : Around} {E : Value → Shared → Prop} {s : Shared} {ex : List Addr} {Q : Value → Shared → Prop}

theorem pick_call {id : String} {op : CmpOp} {lt : PyData → PyData → Option Bool} (T : Turns prog w id op) (hh : A.handled = none) (hc : Answers prog w A.in1 ex op lt) {b : Addr} {vs : List Value} {nn : Nat} {x d : PyData} {xs : List PyData}
    (g : s.heap.get? b = some { cls := .type "list", data := .seq vs.toArray nn }) (r : RepAll s.heap ex vs (x :: xs)) (hd : bestD lt x xs = some d) (hQ : Post s ex d Q) :
    codeAny (model prog w) A (.builtin id ⟨[.ref s.heap.objs.size, .none, .ref (s.heap.push { cls := .type "list_iterator", data := .fields #[.ref b, .int 0 0] }).objs.size], []⟩)
      (fun r s' => match r with | .ok (.ret v) => Q v s' | .ok _ => False | .error e => E e s')
      { s with heap := (s.heap.push { cls := .type "list_iterator", data := .fields #[.ref b, .int 0 0] }).push { cls := .type "list", data := .seq #[] } } := by
  have hlt := Heap.lt_size g
  have z1 : (s.heap.push { cls := .type "list_iterator", data := .fields #[.ref b, .int 0 0] }).objs.size = s.heap.objs.size + 1 := Heap.size_push ..
  rw [z1]
  have hS : ((s.heap.push { cls := .type "list_iterator", data := .fields #[.ref b, .int 0 0] }).push { cls := .type "list", data := .seq #[] }).get? (s.heap.objs.size + 1) = some (keepO #[] 0) := by
    have := Heap.get?_push_size (s.heap.push { cls := .type "list_iterator", data := .fields #[.ref b, .int 0 0] }) (o := { cls := .type "list", data := .seq #[] }) rfl
    rwa [z1] at this
  have G : Grow s.heap ((s.heap.push { cls := .type "list_iterator", data := .fields #[.ref b, .int 0 0] }).push { cls := .type "list", data := .seq #[] }) := (Grow.push _ _).trans (Grow.push _ _)
  exact pick_all T hh r hc (Grow.fresh (Nat.le_refl _)) (Grow.fresh (Nat.le_succ _)) (Nat.ne_of_lt (Nat.lt_succ_self _)) (Nat.ne_of_lt hlt) (Nat.ne_of_lt (Nat.lt_succ_of_lt hlt)) rfl
    ⟨⟨_, Heap.get?_push_of_some _ (Heap.get?_push_size _ rfl), rfl, rfl⟩, isList_of (G _ _ g), G⟩ hS hd fun v h' tk g' rv => hQ v h' tk g' (rv.grow g')

set_option tactic.hygienic true in
theorem min_ok {a : Value} {x d : PyData} {xs : List PyData} (hh : A.handled = none) (hu : A.units + 64 < cLine) (ra : Rep s.heap ex a (.list (x :: xs))) (hd : bestD ltD x xs = some d) (hQ : Post s ex d Q) :
    wpAny (model prog w) A (call (.builtin "min") [a]) Q E s := by
  cases ra with
  | list g n l r =>
    rename_i b vs nn
    have hid : (toString "min" ++ toString ".loop" : String) = "min.loop" := by decide
    have hlt := Heap.lt_size g
    refine call_function_tree F.kind_min F.plain_min F.entry_min (F.args_min1 _) ?_
    wp_walk using wpAny_pyIter_list (isList_of g)
    rw [hid]
    refine ⟨plainId_quiet F.plain_min_loop _, ?_⟩
    exact pick_call (min_turns prog w) hh (fun s' a b p q t E ra rb h => lt_ok ra rb h (by show A.units + 1 < cLine; lia) ⟨rfl, rfl⟩) g r hd hQ

set_option tactic.hygienic true in
theorem max_ok {a : Value} {x d : PyData} {xs : List PyData} (hh : A.handled = none) (hu : A.units + 64 < cLine) (ra : Rep s.heap ex a (.list (x :: xs))) (hd : bestD gtD x xs = some d) (hQ : Post s ex d Q) :
    wpAny (model prog w) A (call (.builtin "max") [a]) Q E s := by
  cases ra with
  | list g n l r =>
    rename_i b vs nn
    have hid : (toString "max" ++ toString ".loop" : String) = "max.loop" := by decide
    have hlt := Heap.lt_size g
    refine call_function_tree F.kind_max F.plain_max F.entry_max (F.args_max1 _) ?_
    wp_walk using wpAny_pyIter_list (isList_of g)
    rw [hid]
    refine ⟨plainId_quiet F.plain_max_loop _, ?_⟩
    exact pick_call (max_turns prog w) hh (fun s' a b p q t E ra rb h => gt_ok ra rb h (by show A.units + 1 < cLine; lia) ⟨rfl, rfl⟩) g r hd hQ
end
end Mine
end

section
open PySem PySem.W PyProof.Rows
set_option maxRecDepth 100000

namespace Mine
set_option tactic.hygienic false

noncomputable def biV (f : String) : Value := if f = "str" then .type "str" else if f = "tuple" then .type "tuple" else .builtin f

theorem repAll_one {h : Heap} {ex : List Addr} {vs : List Value} {d : PyData} (r : RepAll h ex vs [d]) : ∃ v, vs = [v] ∧ Rep h ex v d := by
  cases r with
  | cons a r => cases r; exact ⟨_, rfl, a⟩
theorem intsAre_all {vs : List Value} {ns : List Int} (h : IntsAre vs ns) : AllInts vs.toArray := h.allInts

section
variable {prog : Program} {w : World} {A : Around} {E : Value → Shared → Prop} {s : Shared} {ex : List Addr} {Q : Value → Shared → Prop}

theorem str_small {a : Int} (hc : a.natAbs < 2) : (Str.ofString (toString a)).length ≤ sizeLine ∧ a.natAbs.log2 < 1920 := by
  constructor
  · have : a = -1 ∨ a = 0 ∨ a = 1 := by lia
    rcases this with h | h | h <;> subst h <;> decide +kernel
  · by_cases h0 : a.natAbs = 0
    · rw [h0]; decide
    · have : a.natAbs.log2 < 10 := (Nat.log2_lt h0).mpr (by lia)
      lia

set_option tactic.hygienic true in
theorem bi_ok {f : String} {vs : List Value} {ds : List PyData} {d : PyData} (ho : Old s ex) (hh : A.handled = none) (hu : A.units + 64 < cLine) (r : RepAll s.heap ex vs ds) (hd : biD f ds = some d) (hQ : Post s ex d Q) :
    wpAny (model prog w) A (call (biV f) vs) Q E s := by
  refine r1_el (G := fun vs => wpAny (model prog w) A (call (biV f) vs) Q E s) r (fun v y rv hd => ?_) hd
  refine sel_el (f := f) (P := fun f => wpAny (model prog w) A (call (biV f) [v]) Q E s) (fun hd => ?_) (fun hd => ?_) hd
  · refine rI_el (G := fun v => wpAny (model prog w) A (call (biV "abs") [v]) Q E s) rv (fun a t hd => ?_) hd
    refine call_abs_int fun u tk => ?_
    have e : (if a < 0 then -a else a) = ((a.natAbs : Nat) : Int) := by split <;> lia
    rw [e]
    exact (hQ.to hd).atom (.int _ _)
  refine sel_el (f := f) (P := fun f => wpAny (model prog w) A (call (biV f) [v]) Q E s) (fun hd => ?_) (fun hd => ?_) hd
  · refine rI_el (G := fun v => wpAny (model prog w) A (call (biV "chr") [v]) Q E s) rv (fun a t hd => ?_) hd
    refine if_el (fun hc hd => and2 (fun h1 h2 => ?_) hc) hd
    have h2 := of_decide_eq_true h2
    exact chr_of_range (of_decide_eq_true h1) (by lia) ((hQ.to hd).atom (.str _ _ (by show 1 ≤ sizeLine; rw [sizeLine_eq]; lia)))
  refine sel_el (f := f) (P := fun f => wpAny (model prog w) A (call (biV f) [v]) Q E s) (fun hd => ?_) (fun hd => ?_) hd
  · refine rTE_el (G := fun v => wpAny (model prog w) A (call (biV "len") [v]) Q E s) rv (fun x t hx hd => ?_) (fun hd => ?_) hd
    · exact len_str (by rw [sizeLine_eq] at hx; lia) ((hQ.to hd).atom (.int _ _))
    refine rLE_el (G := fun v => wpAny (model prog w) A (call (biV "len") [v]) Q E s) rv (fun b vs nn ds g n l r' hd => ?_) (fun hd => ?_) hd
    · rw [sizeLine_eq] at l
      refine Calls.call_len_list (isList_of g) (by rw [List.size_toArray, r'.length]; lia) ?_
      rw [List.size_toArray, r'.length]
      exact (hQ.to hd).atom (.int _ _)
    · refine rU_el (G := fun v => wpAny (model prog w) A (call (biV "len") [v]) Q E s) rv (fun b vs ds g n l r' hd => ?_) hd
      rw [sizeLine_eq] at l
      refine len_tuple g (by rw [List.size_toArray, r'.length]; lia) ?_
      rw [List.size_toArray, r'.length]
      exact (hQ.to hd).atom (.int _ _)
  refine sel_el (f := f) (P := fun f => wpAny (model prog w) A (call (biV f) [v]) Q E s) (fun hd => ?_) (fun hd => ?_) hd
  · refine rI_el (G := fun v => wpAny (model prog w) A (call (biV "str") [v]) Q E s) rv (fun a t hd => ?_) hd
    refine if_el (fun hc hd => ?_) hd
    have hc := of_decide_eq_true hc
    exact P.str_of_int (str_small hc).2 ((hQ.to hd).atom (.str _ _ (str_small hc).1))
  refine sel_el (f := f) (P := fun f => wpAny (model prog w) A (call (biV f) [v]) Q E s) (fun hd => ?_) (fun hd => ?_) hd
  · refine rL_el (G := fun v => wpAny (model prog w) A (call (biV "tuple") [v]) Q E s) rv (fun b vs nn ds g n l r' hd => ?_) hd
    have hQ := hQ.to hd
    refine call_tuple_list (isList_of g) (fun h' hk => ?_) (by rw [List.size_toArray, r'.length]; exact l)
    exact hQ _ _ s.toks (Grow.trans hk (Grow.push _ _)) (.tuple ⟨_, Heap.get?_push_size _ rfl, rfl, _, rfl⟩ (ho.freshIn hk) l (r'.grow (Grow.trans hk (Grow.push _ _))))
  refine sel_el (f := f) (P := fun f => wpAny (model prog w) A (call (biV f) [v]) Q E s) (fun hd => ?_) (fun hd => ?_) hd
  · refine rL_el (G := fun v => wpAny (model prog w) A (call (biV "sum") [v]) Q E s) rv (fun b vs nn ds g n l r' hd => ?_) hd
    refine e1_2 (Option.map_eq_some_iff.mp hd) fun ns hns e0 => ?_
    have hQ := hQ.to (congrArg some e0)
    have hi := r'.ints hns
    refine e1_1 (hi.allInts.items) fun xs hxs => ?_
    have hl := isList_of g
    rw [hxs] at hl
    refine sum_intListG hh hl fun h' tk t' hk => ?_
    have e : preSum (numAt xs) xs.size = ns.sum := by
      rw [preSum_eq, List.take_of_length_le (by simp)]
      have := nums_intItems xs
      rw [← this, ← hxs]
      show (numsOf vs).sum = _
      rw [hi.numsOf]
    rw [e]
    exact hQ _ _ _ hk (.int _ _)
  refine sel_el (f := f) (P := fun f => wpAny (model prog w) A (call (biV f) [v]) Q E s) (fun hd => ?_) (fun hd => ?_) hd
  · refine onL_el (P := fun y => Rep s.heap ex v y → wpAny (model prog w) A (call (biV "min") [v]) Q E s) (fun xs hd rv => ?_) hd rv
    refine onC_el (P := fun xs => Rep s.heap ex v (.list xs) → wpAny (model prog w) A (call (biV "min") [v]) Q E s) (fun x xs hd rv => ?_) hd rv
    exact if_el (fun hall hd => min_ok hh hu rv hd hQ) hd
  refine sel_el (f := f) (P := fun f => wpAny (model prog w) A (call (biV f) [v]) Q E s) (fun hd => ?_) (fun hd => nos hd) hd
  · refine onL_el (P := fun y => Rep s.heap ex v y → wpAny (model prog w) A (call (biV "max") [v]) Q E s) (fun xs hd rv => ?_) hd rv
    refine onC_el (P := fun xs => Rep s.heap ex v (.list xs) → wpAny (model prog w) A (call (biV "max") [v]) Q E s) (fun x xs hd rv => ?_) hd rv
    exact if_el (fun hall hd => max_ok hh hu rv hd hQ) hd

set_option maxHeartbeats 0 in
theorem getMethod_ok {m : String} {a : Value} {o : PyData} {ds : List PyData} {d : PyData} {pl : Sem Bool} {Q : Value × List Value → Shared → Prop} (ra : Rep s.heap ex a o) (hd : methD m o ds = some d)
    (hQ : Q (.builtin ("str." ++ m), [a]) s) : wpAny (model prog w) A (getMethod a (Str.ofString m) pl) Q E s := by
  refine rT_el (v := a) (G := fun a => Q (.builtin ("str." ++ m), [a]) s → wpAny (model prog w) A (getMethod a (Str.ofString m) pl) Q E s) ra (fun x t hx hd hQ => ?_) hd hQ
  refine on1_el (fun y hd => ?_) hd
  refine sel_el (f := m) (P := fun m => Q (.builtin ("str." ++ m), [.str x t]) s → wpAny (model prog w) A (getMethod (.str x t) (Str.ofString m) pl) Q E s) (fun _ hQ => ?_) (fun hd => fun hQ => ?_) hd hQ
  · rw [show ("str." ++ "startswith" : String) = "str.startswith" from by decide +kernel] at hQ
    with_reducible exact GM.startswith hQ
  refine sel_el (f := m) (P := fun m => Q (.builtin ("str." ++ m), [.str x t]) s → wpAny (model prog w) A (getMethod (.str x t) (Str.ofString m) pl) Q E s) (fun _ hQ => ?_) (fun hd => fun hQ => ?_) hd hQ
  · rw [show ("str." ++ "endswith" : String) = "str.endswith" from by decide +kernel] at hQ
    with_reducible exact GM.endswith hQ
  refine sel_el (f := m) (P := fun m => Q (.builtin ("str." ++ m), [.str x t]) s → wpAny (model prog w) A (getMethod (.str x t) (Str.ofString m) pl) Q E s) (fun _ hQ => ?_) (fun hd => fun hQ => ?_) hd hQ
  · rw [show ("str." ++ "rfind" : String) = "str.rfind" from by decide +kernel] at hQ
    with_reducible exact GM.rfind hQ
  refine sel_el (f := m) (P := fun m => Q (.builtin ("str." ++ m), [.str x t]) s → wpAny (model prog w) A (getMethod (.str x t) (Str.ofString m) pl) Q E s) (fun _ hQ => ?_) (fun hd => fun hQ => ?_) hd hQ
  · rw [show ("str." ++ "rstrip" : String) = "str.rstrip" from by decide +kernel] at hQ
    with_reducible exact GM.rstrip hQ
  refine sel_el (f := m) (P := fun m => Q (.builtin ("str." ++ m), [.str x t]) s → wpAny (model prog w) A (getMethod (.str x t) (Str.ofString m) pl) Q E s) (fun _ hQ => ?_) (fun hd => fun hQ => ?_) hd hQ
  · rw [show ("str." ++ "split" : String) = "str.split" from by decide +kernel] at hQ
    with_reducible exact GM.split hQ
  refine sel_el (f := m) (P := fun m => Q (.builtin ("str." ++ m), [.str x t]) s → wpAny (model prog w) A (getMethod (.str x t) (Str.ofString m) pl) Q E s) (fun _ hQ => ?_) (fun hd => nos hd) hd hQ
  · rw [show ("str." ++ "join" : String) = "str.join" from by decide +kernel] at hQ
    with_reducible exact GM.join hQ

theorem rstrip_short (x y : Str) (h : x.length ≤ sizeLine) : (Txt.rstripChars x y).length ≤ sizeLine := Nat.le_trans (len_rstripChars x y) h
theorem join_len (x : Str) (ys : List Str) : (Txt.join x ys).length ≤ (ys.map (·.length)).sum + ys.length * x.length := by
  unfold Txt.join
  rw [StrLaws.glued_eq_join]
  cases ys with
  | nil => simp [Str.join, Str.empty, Str.length]
  | cons a l => rw [len_join_cons, List.length_cons, Nat.succ_mul]; lia

set_option tactic.hygienic true in
theorem split_ok2 {x y : Str} {t u : Tok} (ho : Old s ex) (hx : x.length ≤ sizeLine) (hy : y.length ≤ sizeLine) (hc : y.length = 1 ∧ x.length ≤ 1048576) (hQ : Post s ex (.list ((Txt.split x y).map .str)) Q) :
    wpAny (model prog w) A (call (.builtin ("str." ++ "split")) [.str x t, .str y u]) Q E s := by
  have hy0 : (y.length == 0) = false := by rw [hc.1]; rfl
  have hn : (Builtin.Str.partsBetween x (Builtin.Str.occurrences x y 0 x.length (x.length + 1)) y.length).length ≤ 1048578 := by
    have e1 := StrLaws.occ_length_le x y 0 x.length (x.length + 1)
    rw [length_partsBetween]; lia
  have hn' : (Builtin.Str.partsBetween x (Builtin.Str.occurrences x y 0 x.length (x.length + 1)) y.length).length ≤ sizeLine := by rw [sizeLine_eq]; lia
  have fin : ∀ (l : List (Str × Tok)) (tk : Nat), l.map (·.1) = Txt.split x y → (Txt.split x y).length ≤ sizeLine →
      Q (.ref s.heap.objs.size) { s with heap := s.heap.push { cls := .type "list", data := .seq (strValues l).toArray }, toks := tk } := by
    intro l tk e hl
    refine hQ _ _ tk (Grow.push _ _) (.list (Heap.get?_push_size _ rfl) (ho.fresh (Nat.le_refl _)) (by rw [List.length_map]; exact hl) ?_)
    rw [← e]
    refine RepAll.ofStrs fun p hp => ?_
    have : p.1 ∈ Txt.split x y := by rw [← e]; exact List.mem_map.mpr ⟨p, hp, rfl⟩
    exact Nat.le_trans (part_short this) hx
  cases h1 : (decide (x.length < y.length) || decide (Builtin.Str.strKind x < Builtin.Str.strKind y))
  · cases hf : (Builtin.Str.occurrences x y 0 x.length (x.length + 1)).isEmpty
    · have e : Txt.split x y = Builtin.Str.partsBetween x (Builtin.Str.occurrences x y 0 x.length (x.length + 1)) y.length :=
        (if_neg (ne_true_of_eq_false h1)).trans (if_neg (ne_true_of_eq_false hf))
      refine call_meets F.slot_str_split (typeIs_str _ _ _) F.entry_str_split (F.args_str_split_2 _ _) (meets_str_split_sep x y t u h1 hy0 hf hx hn') ?_
      show wants Q E _ { s with toks := _, heap := s.heap.push { cls := .type "list", data := .seq (strsFrom s.toks (Builtin.Str.partsBetween x (Builtin.Str.occurrences x y 0 x.length (x.length + 1)) y.length)).toArray } }
      rw [strsFrom_eq]
      exact fin (numbered s.toks _) _ ((numbered_texts _ _).trans e.symm) (by rw [e]; exact hn')
    · have e : Txt.split x y = [x] := (if_neg (ne_true_of_eq_false h1)).trans (if_pos hf)
      exact call_meets F.slot_str_split (typeIs_str _ _ _) F.entry_str_split (F.args_str_split_2 _ _) (meets_str_split_not_found x y t u h1 hy0 hf)
        (fin [(x, t)] s.toks e.symm (by rw [e, sizeLine_eq]; simp))
  · have e : Txt.split x y = [x] := if_pos h1
    exact call_meets F.slot_str_split (typeIs_str _ _ _) F.entry_str_split (F.args_str_split_2 _ _) (meets_str_split_cannot_occur x y t u h1)
      (fin [(x, t)] s.toks e.symm (by rw [e, sizeLine_eq]; simp))

set_option tactic.hygienic true in
theorem meth_ok {m : String} {a : Value} {vs : List Value} {o : PyData} {ds : List PyData} {d : PyData} (ho : Old s ex) (ra : Rep s.heap ex a o) (r : RepAll s.heap ex vs ds) (hd : methD m o ds = some d) (hQ : Post s ex d Q) :
    wpAny (model prog w) A (call (.builtin ("str." ++ m)) (a :: vs)) Q E s := by
  refine rT_el (G := fun a => wpAny (model prog w) A (call (.builtin ("str." ++ m)) (a :: vs)) Q E s) ra (fun x t hx hd => ?_) hd
  refine r1_el (G := fun vs => wpAny (model prog w) A (call (.builtin ("str." ++ m)) (.str x t :: vs)) Q E s) r (fun v z rv hd => ?_) hd
  refine sel_el (f := m) (P := fun m => wpAny (model prog w) A (call (.builtin ("str." ++ m)) [.str x t, v]) Q E s) (fun hd => ?_) (fun hd => ?_) hd
  · exact rT_el (G := fun v => wpAny (model prog w) A (call (.builtin ("str." ++ "startswith")) [.str x t, v]) Q E s) rv (fun y u hy hd => SC.startswith ((hQ.to hd).here (.bool _))) hd
  refine sel_el (f := m) (P := fun m => wpAny (model prog w) A (call (.builtin ("str." ++ m)) [.str x t, v]) Q E s) (fun hd => ?_) (fun hd => ?_) hd
  · exact rT_el (G := fun v => wpAny (model prog w) A (call (.builtin ("str." ++ "endswith")) [.str x t, v]) Q E s) rv (fun y u hy hd => SC.endswith ((hQ.to hd).here (.bool _))) hd
  refine sel_el (f := m) (P := fun m => wpAny (model prog w) A (call (.builtin ("str." ++ m)) [.str x t, v]) Q E s) (fun hd => ?_) (fun hd => ?_) hd
  · exact rT_el (G := fun v => wpAny (model prog w) A (call (.builtin ("str." ++ "rfind")) [.str x t, v]) Q E s) rv (fun y u hy hd => SC.rfind ((hQ.to hd).atom (.int _ _))) hd
  refine sel_el (f := m) (P := fun m => wpAny (model prog w) A (call (.builtin ("str." ++ m)) [.str x t, v]) Q E s) (fun hd => ?_) (fun hd => ?_) hd
  · exact rT_el (G := fun v => wpAny (model prog w) A (call (.builtin ("str." ++ "rstrip")) [.str x t, v]) Q E s) rv (fun y u hy hd => SC.rstripChars (fun t' k => (hQ.to hd).atom (.str _ _ (rstrip_short _ _ hx))) hx) hd
  refine sel_el (f := m) (P := fun m => wpAny (model prog w) A (call (.builtin ("str." ++ m)) [.str x t, v]) Q E s) (fun hd => ?_) (fun hd => ?_) hd
  · refine rT_el (G := fun v => wpAny (model prog w) A (call (.builtin ("str." ++ "split")) [.str x t, v]) Q E s) rv (fun y u hy hd => ?_) hd
    exact if_el (fun hc hd => split_ok2 ho hx hy (by simpa only [Bool.and_eq_true, decide_eq_true_eq] using hc) (hQ.to hd)) hd
  refine sel_el (f := m) (P := fun m => wpAny (model prog w) A (call (.builtin ("str." ++ m)) [.str x t, v]) Q E s) (fun hd => ?_) (fun hd => nos hd) hd
  · refine rL_el (G := fun v => wpAny (model prog w) A (call (.builtin ("str." ++ "join")) [.str x t, v]) Q E s) rv (fun b vs nn ds g n l r' hd => ?_) hd
    cases hys : strsOf ds with
    | none => rw [hys] at hd; exact nos hd
    | some ys =>
      rw [hys] at hd
      refine if_el (fun hc hd => ?_) hd
      have hc := of_decide_eq_true hc
      refine join_list (isList_of g) (by simpa using strsAre_of r' hys) (by lia) fun t' k => (hQ.to hd).atom (.str _ _ ?_)
      have := join_len x ys
      rw [sizeLine_eq]; lia
end
end Mine
end

section
open PySem PySem.W PyProof.Rows

namespace Mine
set_option tactic.hygienic false

/-- the scope of a comprehension in a block of scope sc, as the model turns it -/
noncomputable def relabelS (cs sc : Scope) : Scope :=
  { cs with names := cs.names.map fun (n, k) => if (k == .free && sc.kind == .function && sc.names.lookup n == some .cell) then (n, .cell) else (n, k) }

noncomputable def seesB (sc : Scope) (x : Str) : Bool := !(x == Str.ofString ".0") && match sc.names.lookup x with
  | some .local => true
  | some .cell => true
  | _ => false
theorem sees_of {sc : Scope} {x : Str} (h : seesB sc x = true) : sc.names.lookup x = some .local ∨ sc.names.lookup x = some .cell := by
  have h2 := (Bool.and_eq_true_iff.mp h).2
  revert h2
  generalize sc.names.lookup x = o
  intro h2
  cases o with
  | none => exact absurd h2 Bool.false_ne_true
  | some k => cases k <;> first | exact .inl rfl | exact .inr rfl | exact absurd h2 Bool.false_ne_true
theorem sees_ne {sc : Scope} {x : Str} (h : seesB sc x = true) : x ≠ Str.ofString ".0" := fun e => by
  have h2 := (Bool.and_eq_true_iff.mp h).1
  rw [e, beq_self_eq_true] at h2
  exact absurd h2 Bool.false_ne_true
noncomputable def globB (sc : Scope) (x : Str) : Bool := sc.names.lookup x == some .globalImplicit

noncomputable def opB : Op2 → Operator → Bool
  | .add, .Add => true | .sub, .Sub => true | .mul, .Mult => true | .fdiv, .FloorDiv => true | .mod, .Mod => true | .pow, .Pow => true
  | _, _ => false
noncomputable def cmB : Cm → CmpOp → Bool
  | .eq, .Eq => true | .ne, .NotEq => true | .lt, .Lt => true | .gt, .Gt => true | .isin, .In => true | .notin, .NotIn => true
  | _, _ => false
noncomputable def boB : Bool → BoolOp → Bool
  | true, .And => true
  | false, .Or => true
  | _, _ => false

noncomputable def notSet : Expr → Bool
  | .Set .. => false
  | _ => true
noncomputable def notSuper : Expr → Bool
  | .Call (.Name _ _) [] [] _ => false
  | _ => true
noncomputable def isComp : Expr → Bool
  | .ListComp .. => true | .SetComp .. => true | .DictComp .. => true
  | _ => false

/-- what a comprehension's scope must be: plain; no cells; its own names looked up as they stand; free names that the block around knows as cells or free -/
noncomputable def compB (sc cs : Scope) (x : Str) : Bool :=
  cs.kind == .function && cs.names.all (fun y => y.2 != .cell) && cs.names.all (fun y => y.2 != .local || ((y.1 == x || y.1 == Str.ofString ".0") && cs.names.lookup y.1 == some .local)) && cs.names.lookup x == some .local &&
  cs.names.all (fun y => y.2 != .free || sc.names.lookup y.1 == some .cell)

noncomputable def biNames : List String := ["abs", "chr", "len", "str", "tuple", "sum", "min", "max"]

/-! small looks at a piece of a text, each with its law -/
theorem dead {α : Type} {x : α} {P : Prop} (h : (none : Option α) = some x) : P := nos h
theorem look {c : Prop} [Decidable c] {t : c → Bool} {P : Prop} (g : c → P) (h : (if h : c then t h else false) = true) : P := by
  by_cases k : c
  · exact g k
  · rw [dif_neg k] at h; exact absurd h Bool.false_ne_true
noncomputable def g0 {α : Type} (l : List α) (k : Unit → Bool) : Bool := List.casesOn l (k ()) (fun _ _ => false)
theorem g0_el {α : Type} {P : List α → Prop} {f : Unit → Bool} {l : List α} (g : f () = true → P []) (h : g0 l f = true) : P l :=
  List.casesOn (motive := fun l => g0 l f = true → P l) l g (fun _ _ h => absurd h Bool.false_ne_true) h
noncomputable def gC {α : Type} (l : List α) (k : α → List α → Bool) : Bool := List.casesOn l false (fun x r => k x r)
theorem gC_el {α : Type} {P : List α → Prop} {f : α → List α → Bool} {l : List α} (g : ∀ x r, f x r = true → P (x :: r)) (h : gC l f = true) : P l :=
  List.casesOn (motive := fun l => gC l f = true → P l) l (fun h => absurd h Bool.false_ne_true) g h
noncomputable def g1 {α : Type} (l : List α) (k : α → Bool) : Bool := gC l fun x r => g0 r fun _ => k x
theorem g1_el {α : Type} {P : List α → Prop} {f : α → Bool} {l : List α} (g : ∀ x, f x = true → P [x]) (h : g1 l f = true) : P l :=
  gC_el (fun x r h1 => g0_el (P := fun r => P (x :: r)) (fun h2 => g x h2) h1) h
noncomputable def g2 {α : Type} (l : List α) (k : α → α → Bool) : Bool := gC l fun x r => g1 r fun y => k x y
theorem g2_el {α : Type} {P : List α → Prop} {f : α → α → Bool} {l : List α} (g : ∀ x y, f x y = true → P [x, y]) (h : g2 l f = true) : P l :=
  gC_el (fun x r h1 => g1_el (P := fun r => P (x :: r)) (fun y h2 => g x y h2) h1) h
noncomputable def gI (k x : Int) (f : Unit → Bool) : Bool := if _h : x = k then f () else false
theorem gI_el {k : Int} {P : Int → Prop} {f : Unit → Bool} {x : Int} (g : f () = true → P k) (h : gI k x f = true) : P x := by
  by_cases e : x = k
  · subst e; exact g ((dif_pos rfl).symm.trans h)
  · exact absurd ((dif_neg e).symm.trans h) Bool.false_ne_true
noncomputable def gN {α : Type} (o : Option α) (k : Unit → Bool) : Bool := Option.casesOn o (k ()) (fun _ => false)
theorem gN_el {α : Type} {P : Option α → Prop} {f : Unit → Bool} {o : Option α} (g : f () = true → P none) (h : gN o f = true) : P o :=
  Option.casesOn (motive := fun o => gN o f = true → P o) o g (fun _ h => absurd h Bool.false_ne_true) h
noncomputable def gS {α : Type} (o : Option α) (k : α → Bool) : Bool := Option.casesOn o false k
theorem gS_el {α : Type} {P : Option α → Prop} {f : α → Bool} {o : Option α} (g : ∀ x, f x = true → P (some x)) (h : gS o f = true) : P o :=
  Option.casesOn (motive := fun o => gS o f = true → P o) o (fun h => absurd h Bool.false_ne_true) g h
noncomputable def gM (g : Comprehension) (k : Expr → Expr → List Expr → Int → Bool) : Bool := k g.target g.iter g.ifs g.is_async
theorem gM_el {P : Comprehension → Prop} {f : Expr → Expr → List Expr → Int → Bool} {c : Comprehension} (g : ∀ a b d e, f a b d e = true → P ⟨a, b, d, e⟩) (h : gM c f = true) : P c := by cases c; exact g _ _ _ _ h
noncomputable def cInt (e : Const) (k : Int → Bool) : Bool := if h : e.ctorIdx = 2 then Const.int.elim (motive := fun _ => Bool) e h k else false
theorem cInt_el {P : Const → Prop} {f : Int → Bool} {e : Const} (g : ∀ (x0 : Int), f x0 = true → P (.int x0)) (h : cInt e f = true) : P e := look (fun c => Const.int.elim (motive := fun e => cInt e f = true → P e) e c g h) h
noncomputable def cBool (e : Const) (k : Bool → Bool) : Bool := if h : e.ctorIdx = 1 then Const.bool.elim (motive := fun _ => Bool) e h k else false
theorem cBool_el {P : Const → Prop} {f : Bool → Bool} {e : Const} (g : ∀ (x0 : Bool), f x0 = true → P (.bool x0)) (h : cBool e f = true) : P e := look (fun c => Const.bool.elim (motive := fun e => cBool e f = true → P e) e c g h) h
noncomputable def cStr (e : Const) (k : Str → Bool) : Bool := if h : e.ctorIdx = 5 then Const.str.elim (motive := fun _ => Bool) e h k else false
theorem cStr_el {P : Const → Prop} {f : Str → Bool} {e : Const} (g : ∀ (x0 : Str), f x0 = true → P (.str x0)) (h : cStr e f = true) : P e := look (fun c => Const.str.elim (motive := fun e => cStr e f = true → P e) e c g h) h
noncomputable def oNot (e : UnaryOp) (k : Unit → Bool) : Bool := if h : e.ctorIdx = 1 then UnaryOp.Not.elim (motive := fun _ => Bool) e h (k ()) else false
theorem oNot_el {P : UnaryOp → Prop} {f : Unit → Bool} {e : UnaryOp} (g : f () = true → P .Not) (h : oNot e f = true) : P e := look (fun c => UnaryOp.Not.elim (motive := fun e => oNot e f = true → P e) e c g h) h
noncomputable def oUSub (e : UnaryOp) (k : Unit → Bool) : Bool := if h : e.ctorIdx = 3 then UnaryOp.USub.elim (motive := fun _ => Bool) e h (k ()) else false
theorem oUSub_el {P : UnaryOp → Prop} {f : Unit → Bool} {e : UnaryOp} (g : f () = true → P .USub) (h : oUSub e f = true) : P e := look (fun c => UnaryOp.USub.elim (motive := fun e => oUSub e f = true → P e) e c g h) h
noncomputable def p_NotIn (e : CmpOp) (k : Unit → Bool) : Bool := if h : e.ctorIdx = 9 then CmpOp.NotIn.elim (motive := fun _ => Bool) e h (k ()) else false
theorem p_NotIn_el {P : CmpOp → Prop} {f : Unit → Bool} {e : CmpOp} (g : f () = true → P .NotIn) (h : p_NotIn e f = true) : P e := look (fun c => CmpOp.NotIn.elim (motive := fun e => p_NotIn e f = true → P e) e c g h) h
noncomputable def oAdd (e : Operator) (k : Unit → Bool) : Bool := if h : e.ctorIdx = 0 then Operator.Add.elim (motive := fun _ => Bool) e h (k ()) else false
theorem oAdd_el {P : Operator → Prop} {f : Unit → Bool} {e : Operator} (g : f () = true → P .Add) (h : oAdd e f = true) : P e := look (fun c => Operator.Add.elim (motive := fun e => oAdd e f = true → P e) e c g h) h
noncomputable def p_Name (e : Expr) (k : Str → Pos → Bool) : Bool := if h : e.ctorIdx = 23 then Expr.Name.elim (motive_1 := fun _ => Bool) e h k else false
theorem p_Name_el {P : Expr → Prop} {f : Str → Pos → Bool} {e : Expr} (g : ∀ (x0 : Str) (x1 : Pos), f x0 x1 = true → P (.Name x0 x1)) (h : p_Name e f = true) : P e := look (fun c => Expr.Name.elim (motive_1 := fun e => p_Name e f = true → P e) e c g h) h
noncomputable def b_Const (e : Expr) (k : Const → Nat → Pos → Bool) : Bool := if h : e.ctorIdx = 19 then Expr.Constant.elim (motive_1 := fun _ => Bool) e h k else false
theorem b_Const_el {P : Expr → Prop} {f : Const → Nat → Pos → Bool} {e : Expr} (g : ∀ (x0 : Const) (x1 : Nat) (x2 : Pos), f x0 x1 x2 = true → P (.Constant x0 x1 x2)) (h : b_Const e f = true) : P e := look (fun c => Expr.Constant.elim (motive_1 := fun e => b_Const e f = true → P e) e c g h) h
noncomputable def p_Bin (e : Expr) (k : Expr → Operator → Expr → Pos → Bool) : Bool := if h : e.ctorIdx = 2 then Expr.BinOp.elim (motive_1 := fun _ => Bool) e h k else false
theorem p_Bin_el {P : Expr → Prop} {f : Expr → Operator → Expr → Pos → Bool} {e : Expr} (g : ∀ (x0 : Expr) (x1 : Operator) (x2 : Expr) (x3 : Pos), f x0 x1 x2 x3 = true → P (.BinOp x0 x1 x2 x3)) (h : p_Bin e f = true) : P e := look (fun c => Expr.BinOp.elim (motive_1 := fun e => p_Bin e f = true → P e) e c g h) h
noncomputable def b_Un (e : Expr) (k : UnaryOp → Expr → Pos → Bool) : Bool := if h : e.ctorIdx = 3 then Expr.UnaryOp.elim (motive_1 := fun _ => Bool) e h k else false
theorem b_Un_el {P : Expr → Prop} {f : UnaryOp → Expr → Pos → Bool} {e : Expr} (g : ∀ (x0 : UnaryOp) (x1 : Expr) (x2 : Pos), f x0 x1 x2 = true → P (.UnaryOp x0 x1 x2)) (h : b_Un e f = true) : P e := look (fun c => Expr.UnaryOp.elim (motive_1 := fun e => b_Un e f = true → P e) e c g h) h
noncomputable def b_Cmp (e : Expr) (k : Expr → (List CmpOp) → (List Expr) → Pos → Bool) : Bool := if h : e.ctorIdx = 15 then Expr.Compare.elim (motive_1 := fun _ => Bool) e h k else false
theorem b_Cmp_el {P : Expr → Prop} {f : Expr → (List CmpOp) → (List Expr) → Pos → Bool} {e : Expr} (g : ∀ (x0 : Expr) (x1 : List CmpOp) (x2 : List Expr) (x3 : Pos), f x0 x1 x2 x3 = true → P (.Compare x0 x1 x2 x3)) (h : b_Cmp e f = true) : P e := look (fun c => Expr.Compare.elim (motive_1 := fun e => b_Cmp e f = true → P e) e c g h) h
noncomputable def p_Bop (e : Expr) (k : BoolOp → (List Expr) → Pos → Bool) : Bool := if h : e.ctorIdx = 0 then Expr.BoolOp.elim (motive_1 := fun _ => Bool) e h k else false
theorem p_Bop_el {P : Expr → Prop} {f : BoolOp → (List Expr) → Pos → Bool} {e : Expr} (g : ∀ (x0 : BoolOp) (x1 : List Expr) (x2 : Pos), f x0 x1 x2 = true → P (.BoolOp x0 x1 x2)) (h : p_Bop e f = true) : P e := look (fun c => Expr.BoolOp.elim (motive_1 := fun e => p_Bop e f = true → P e) e c g h) h
noncomputable def p_IfE (e : Expr) (k : Expr → Expr → Expr → Pos → Bool) : Bool := if h : e.ctorIdx = 5 then Expr.IfExp.elim (motive_1 := fun _ => Bool) e h k else false
theorem p_IfE_el {P : Expr → Prop} {f : Expr → Expr → Expr → Pos → Bool} {e : Expr} (g : ∀ (x0 : Expr) (x1 : Expr) (x2 : Expr) (x3 : Pos), f x0 x1 x2 x3 = true → P (.IfExp x0 x1 x2 x3)) (h : p_IfE e f = true) : P e := look (fun c => Expr.IfExp.elim (motive_1 := fun e => p_IfE e f = true → P e) e c g h) h
noncomputable def p_Lst (e : Expr) (k : (List Expr) → Pos → Bool) : Bool := if h : e.ctorIdx = 24 then Expr.List.elim (motive_1 := fun _ => Bool) e h k else false
theorem p_Lst_el {P : Expr → Prop} {f : (List Expr) → Pos → Bool} {e : Expr} (g : ∀ (x0 : List Expr) (x1 : Pos), f x0 x1 = true → P (.List x0 x1)) (h : p_Lst e f = true) : P e := look (fun c => Expr.List.elim (motive_1 := fun e => p_Lst e f = true → P e) e c g h) h
noncomputable def p_Tup (e : Expr) (k : (List Expr) → Nat → Pos → Bool) : Bool := if h : e.ctorIdx = 25 then Expr.Tuple.elim (motive_1 := fun _ => Bool) e h k else false
theorem p_Tup_el {P : Expr → Prop} {f : (List Expr) → Nat → Pos → Bool} {e : Expr} (g : ∀ (x0 : List Expr) (x1 : Nat) (x2 : Pos), f x0 x1 x2 = true → P (.Tuple x0 x1 x2)) (h : p_Tup e f = true) : P e := look (fun c => Expr.Tuple.elim (motive_1 := fun e => p_Tup e f = true → P e) e c g h) h
noncomputable def p_Sub (e : Expr) (k : Expr → Expr → Pos → Bool) : Bool := if h : e.ctorIdx = 21 then Expr.Subscript.elim (motive_1 := fun _ => Bool) e h k else false
theorem p_Sub_el {P : Expr → Prop} {f : Expr → Expr → Pos → Bool} {e : Expr} (g : ∀ (x0 : Expr) (x1 : Expr) (x2 : Pos), f x0 x1 x2 = true → P (.Subscript x0 x1 x2)) (h : p_Sub e f = true) : P e := look (fun c => Expr.Subscript.elim (motive_1 := fun e => p_Sub e f = true → P e) e c g h) h
noncomputable def b_Sli (e : Expr) (k : (Option Expr) → (Option Expr) → (Option Expr) → Pos → Bool) : Bool := if h : e.ctorIdx = 26 then Expr.Slice.elim (motive_1 := fun _ => Bool) e h k else false
theorem b_Sli_el {P : Expr → Prop} {f : (Option Expr) → (Option Expr) → (Option Expr) → Pos → Bool} {e : Expr} (g : ∀ (x0 : Option Expr) (x1 : Option Expr) (x2 : Option Expr) (x3 : Pos), f x0 x1 x2 x3 = true → P (.Slice x0 x1 x2 x3)) (h : b_Sli e f = true) : P e := look (fun c => Expr.Slice.elim (motive_1 := fun e => b_Sli e f = true → P e) e c g h) h
noncomputable def p_LCg (e : Expr) (k : Expr → (List Comprehension) → Scope → Pos → Bool) : Bool := if h : e.ctorIdx = 8 then Expr.ListComp.elim (motive_1 := fun _ => Bool) e h k else false
theorem p_LCg_el {P : Expr → Prop} {f : Expr → (List Comprehension) → Scope → Pos → Bool} {e : Expr} (g : ∀ (x0 : Expr) (x1 : List Comprehension) (x2 : Scope) (x3 : Pos), f x0 x1 x2 x3 = true → P (.ListComp x0 x1 x2 x3)) (h : p_LCg e f = true) : P e := look (fun c => Expr.ListComp.elim (motive_1 := fun e => p_LCg e f = true → P e) e c g h) h
noncomputable def b_SC (e : Expr) (k : Expr → (List Comprehension) → Scope → Pos → Bool) : Bool := if h : e.ctorIdx = 9 then Expr.SetComp.elim (motive_1 := fun _ => Bool) e h k else false
theorem b_SC_el {P : Expr → Prop} {f : Expr → (List Comprehension) → Scope → Pos → Bool} {e : Expr} (g : ∀ (x0 : Expr) (x1 : List Comprehension) (x2 : Scope) (x3 : Pos), f x0 x1 x2 x3 = true → P (.SetComp x0 x1 x2 x3)) (h : b_SC e f = true) : P e := look (fun c => Expr.SetComp.elim (motive_1 := fun e => b_SC e f = true → P e) e c g h) h
noncomputable def b_Call (e : Expr) (k : Expr → (List Expr) → (List Keyword) → Pos → Bool) : Bool := if h : e.ctorIdx = 16 then Expr.Call.elim (motive_1 := fun _ => Bool) e h k else false
theorem b_Call_el {P : Expr → Prop} {f : Expr → (List Expr) → (List Keyword) → Pos → Bool} {e : Expr} (g : ∀ (x0 : Expr) (x1 : List Expr) (x2 : List Keyword) (x3 : Pos), f x0 x1 x2 x3 = true → P (.Call x0 x1 x2 x3)) (h : b_Call e f = true) : P e := look (fun c => Expr.Call.elim (motive_1 := fun e => b_Call e f = true → P e) e c g h) h
noncomputable def p_Att (e : Expr) (k : Expr → Str → Pos → Bool) : Bool := if h : e.ctorIdx = 20 then Expr.Attribute.elim (motive_1 := fun _ => Bool) e h k else false
theorem p_Att_el {P : Expr → Prop} {f : Expr → Str → Pos → Bool} {e : Expr} (g : ∀ (x0 : Expr) (x1 : Str) (x2 : Pos), f x0 x1 x2 = true → P (.Attribute x0 x1 x2)) (h : p_Att e f = true) : P e := look (fun c => Expr.Attribute.elim (motive_1 := fun e => p_Att e f = true → P e) e c g h) h
noncomputable def b_Ret (e : Stmt) (k : (Option Expr) → Pos → Bool) : Bool := if h : e.ctorIdx = 3 then Stmt.Return.elim (motive_2 := fun _ => Bool) e h k else false
theorem b_Ret_el {P : Stmt → Prop} {f : (Option Expr) → Pos → Bool} {e : Stmt} (g : ∀ (x0 : Option Expr) (x1 : Pos), f x0 x1 = true → P (.Return x0 x1)) (h : b_Ret e f = true) : P e := look (fun c => Stmt.Return.elim (motive_2 := fun e => b_Ret e f = true → P e) e c g h) h
noncomputable def b_Asg (e : Stmt) (k : (List Expr) → Expr → Pos → Bool) : Bool := if h : e.ctorIdx = 5 then Stmt.Assign.elim (motive_2 := fun _ => Bool) e h k else false
theorem b_Asg_el {P : Stmt → Prop} {f : (List Expr) → Expr → Pos → Bool} {e : Stmt} (g : ∀ (x0 : List Expr) (x1 : Expr) (x2 : Pos), f x0 x1 x2 = true → P (.Assign x0 x1 x2)) (h : b_Asg e f = true) : P e := look (fun c => Stmt.Assign.elim (motive_2 := fun e => b_Asg e f = true → P e) e c g h) h
noncomputable def b_Aug (e : Stmt) (k : Expr → Operator → Expr → Pos → Bool) : Bool := if h : e.ctorIdx = 7 then Stmt.AugAssign.elim (motive_2 := fun _ => Bool) e h k else false
theorem b_Aug_el {P : Stmt → Prop} {f : Expr → Operator → Expr → Pos → Bool} {e : Stmt} (g : ∀ (x0 : Expr) (x1 : Operator) (x2 : Expr) (x3 : Pos), f x0 x1 x2 x3 = true → P (.AugAssign x0 x1 x2 x3)) (h : b_Aug e f = true) : P e := look (fun c => Stmt.AugAssign.elim (motive_2 := fun e => b_Aug e f = true → P e) e c g h) h
noncomputable def b_For (e : Stmt) (k : Expr → Expr → (List Stmt) → (List Stmt) → Pos → Bool) : Bool := if h : e.ctorIdx = 9 then Stmt.For.elim (motive_2 := fun _ => Bool) e h k else false
theorem b_For_el {P : Stmt → Prop} {f : Expr → Expr → (List Stmt) → (List Stmt) → Pos → Bool} {e : Stmt} (g : ∀ (x0 : Expr) (x1 : Expr) (x2 : List Stmt) (x3 : List Stmt) (x4 : Pos), f x0 x1 x2 x3 x4 = true → P (.For x0 x1 x2 x3 x4)) (h : b_For e f = true) : P e := look (fun c => Stmt.For.elim (motive_2 := fun e => b_For e f = true → P e) e c g h) h
noncomputable def b_Whl (e : Stmt) (k : Expr → (List Stmt) → (List Stmt) → Pos → Bool) : Bool := if h : e.ctorIdx = 11 then Stmt.While.elim (motive_2 := fun _ => Bool) e h k else false
theorem b_Whl_el {P : Stmt → Prop} {f : Expr → (List Stmt) → (List Stmt) → Pos → Bool} {e : Stmt} (g : ∀ (x0 : Expr) (x1 : List Stmt) (x2 : List Stmt) (x3 : Pos), f x0 x1 x2 x3 = true → P (.While x0 x1 x2 x3)) (h : b_Whl e f = true) : P e := look (fun c => Stmt.While.elim (motive_2 := fun e => b_Whl e f = true → P e) e c g h) h
noncomputable def p_IfS (e : Stmt) (k : Expr → (List Stmt) → (List Stmt) → Pos → Bool) : Bool := if h : e.ctorIdx = 12 then Stmt.If.elim (motive_2 := fun _ => Bool) e h k else false
theorem p_IfS_el {P : Stmt → Prop} {f : Expr → (List Stmt) → (List Stmt) → Pos → Bool} {e : Stmt} (g : ∀ (x0 : Expr) (x1 : List Stmt) (x2 : List Stmt) (x3 : Pos), f x0 x1 x2 x3 = true → P (.If x0 x1 x2 x3)) (h : p_IfS e f = true) : P e := look (fun c => Stmt.If.elim (motive_2 := fun e => p_IfS e f = true → P e) e c g h) h
noncomputable def b_Try (e : Stmt) (k : (List Stmt) → (List ExceptHandler) → (List Stmt) → (List Stmt) → Pos → Bool) : Bool := if h : e.ctorIdx = 17 then Stmt.Try.elim (motive_2 := fun _ => Bool) e h k else false
theorem b_Try_el {P : Stmt → Prop} {f : (List Stmt) → (List ExceptHandler) → (List Stmt) → (List Stmt) → Pos → Bool} {e : Stmt} (g : ∀ (x0 : List Stmt) (x1 : List ExceptHandler) (x2 : List Stmt) (x3 : List Stmt) (x4 : Pos), f x0 x1 x2 x3 x4 = true → P (.Try x0 x1 x2 x3 x4)) (h : b_Try e f = true) : P e := look (fun c => Stmt.Try.elim (motive_2 := fun e => b_Try e f = true → P e) e c g h) h
noncomputable def p_ExpS (e : Stmt) (k : Expr → Pos → Bool) : Bool := if h : e.ctorIdx = 24 then Stmt.Expr.elim (motive_2 := fun _ => Bool) e h k else false
theorem p_ExpS_el {P : Stmt → Prop} {f : Expr → Pos → Bool} {e : Stmt} (g : ∀ (x0 : Expr) (x1 : Pos), f x0 x1 = true → P (.Expr x0 x1)) (h : p_ExpS e f = true) : P e := look (fun c => Stmt.Expr.elim (motive_2 := fun e => p_ExpS e f = true → P e) e c g h) h
noncomputable def p_Brk (e : Stmt) (k : Pos → Bool) : Bool := if h : e.ctorIdx = 26 then Stmt.Break.elim (motive_2 := fun _ => Bool) e h k else false
theorem p_Brk_el {P : Stmt → Prop} {f : Pos → Bool} {e : Stmt} (g : ∀ (x0 : Pos), f x0 = true → P (.Break x0)) (h : p_Brk e f = true) : P e := look (fun c => Stmt.Break.elim (motive_2 := fun e => p_Brk e f = true → P e) e c g h) h
noncomputable def p_Cnt (e : Stmt) (k : Pos → Bool) : Bool := if h : e.ctorIdx = 27 then Stmt.Continue.elim (motive_2 := fun _ => Bool) e h k else false
theorem p_Cnt_el {P : Stmt → Prop} {f : Pos → Bool} {e : Stmt} (g : ∀ (x0 : Pos), f x0 = true → P (.Continue x0)) (h : p_Cnt e f = true) : P e := look (fun c => Stmt.Continue.elim (motive_2 := fun e => p_Cnt e f = true → P e) e c g h) h
noncomputable def p_Int (e : Expr) (k : Int → Nat → Pos → Bool) : Bool := b_Const e fun y x1 x2 => cInt y fun x0 => k x0 x1 x2
theorem p_Int_el {P : Expr → Prop} {f : Int → Nat → Pos → Bool} {e : Expr} (g : ∀ (x0 : Int) (x1 : Nat) (x2 : Pos), f x0 x1 x2 = true → P (.Constant (.int x0) x1 x2)) (h : p_Int e f = true) : P e := by
  refine b_Const_el (P := fun z => P (z)) (fun y x1 x2 h1 => ?_) h
  refine cInt_el (P := fun z => P (.Constant z x1 x2)) (fun x0 h2 => ?_) h1
  exact g x0 x1 x2 h2
noncomputable def p_StrC (e : Expr) (k : Str → Nat → Pos → Bool) : Bool := b_Const e fun y x1 x2 => cStr y fun x0 => k x0 x1 x2
theorem p_StrC_el {P : Expr → Prop} {f : Str → Nat → Pos → Bool} {e : Expr} (g : ∀ (x0 : Str) (x1 : Nat) (x2 : Pos), f x0 x1 x2 = true → P (.Constant (.str x0) x1 x2)) (h : p_StrC e f = true) : P e := by
  refine b_Const_el (P := fun z => P (z)) (fun y x1 x2 h1 => ?_) h
  refine cStr_el (P := fun z => P (.Constant z x1 x2)) (fun x0 h2 => ?_) h1
  exact g x0 x1 x2 h2
noncomputable def p_BoolC (e : Expr) (k : Bool → Nat → Pos → Bool) : Bool := b_Const e fun y x1 x2 => cBool y fun x0 => k x0 x1 x2
theorem p_BoolC_el {P : Expr → Prop} {f : Bool → Nat → Pos → Bool} {e : Expr} (g : ∀ (x0 : Bool) (x1 : Nat) (x2 : Pos), f x0 x1 x2 = true → P (.Constant (.bool x0) x1 x2)) (h : p_BoolC e f = true) : P e := by
  refine b_Const_el (P := fun z => P (z)) (fun y x1 x2 h1 => ?_) h
  refine cBool_el (P := fun z => P (.Constant z x1 x2)) (fun x0 h2 => ?_) h1
  exact g x0 x1 x2 h2
noncomputable def p_Neg (e : Expr) (k : Expr → Pos → Bool) : Bool := b_Un e fun y x0 x1 => oUSub y fun _ => k x0 x1
theorem p_Neg_el {P : Expr → Prop} {f : Expr → Pos → Bool} {e : Expr} (g : ∀ (x0 : Expr) (x1 : Pos), f x0 x1 = true → P (.UnaryOp .USub x0 x1)) (h : p_Neg e f = true) : P e := by
  refine b_Un_el (P := fun z => P (z)) (fun y x0 x1 h1 => ?_) h
  refine oUSub_el (P := fun z => P (.UnaryOp z x0 x1)) (fun h2 => ?_) h1
  exact g x0 x1 h2
noncomputable def p_NotE (e : Expr) (k : Expr → Pos → Bool) : Bool := b_Un e fun y x0 x1 => oNot y fun _ => k x0 x1
theorem p_NotE_el {P : Expr → Prop} {f : Expr → Pos → Bool} {e : Expr} (g : ∀ (x0 : Expr) (x1 : Pos), f x0 x1 = true → P (.UnaryOp .Not x0 x1)) (h : p_NotE e f = true) : P e := by
  refine b_Un_el (P := fun z => P (z)) (fun y x0 x1 h1 => ?_) h
  refine oNot_el (P := fun z => P (.UnaryOp z x0 x1)) (fun h2 => ?_) h1
  exact g x0 x1 h2
noncomputable def p_Cmp1 (e : Expr) (k : Expr → CmpOp → Expr → Pos → Bool) : Bool := b_Cmp e fun x0 y w x3 => g1 y fun x1 => g1 w fun x2 => k x0 x1 x2 x3
theorem p_Cmp1_el {P : Expr → Prop} {f : Expr → CmpOp → Expr → Pos → Bool} {e : Expr} (g : ∀ (x0 : Expr) (x1 : CmpOp) (x2 : Expr) (x3 : Pos), f x0 x1 x2 x3 = true → P (.Compare x0 [x1] [x2] x3)) (h : p_Cmp1 e f = true) : P e := by
  refine b_Cmp_el (P := fun z => P (z)) (fun x0 y w x3 h1 => ?_) h
  refine g1_el (P := fun z => P (.Compare x0 z w x3)) (fun x1 h2 => ?_) h1
  refine g1_el (P := fun z => P (.Compare x0 [x1] z x3)) (fun x2 h3 => ?_) h2
  exact g x0 x1 x2 x3 h3
noncomputable def p_Sli (e : Expr) (k : (Option Expr) → (Option Expr) → Pos → Bool) : Bool := b_Sli e fun x0 x1 y x2 => gN y fun _ => k x0 x1 x2
theorem p_Sli_el {P : Expr → Prop} {f : (Option Expr) → (Option Expr) → Pos → Bool} {e : Expr} (g : ∀ (x0 : Option Expr) (x1 : Option Expr) (x2 : Pos), f x0 x1 x2 = true → P (.Slice x0 x1 none x2)) (h : p_Sli e f = true) : P e := by
  refine b_Sli_el (P := fun z => P (z)) (fun x0 x1 y x2 h1 => ?_) h
  refine gN_el (P := fun z => P (.Slice x0 x1 z x2)) (fun h2 => ?_) h1
  exact g x0 x1 x2 h2
noncomputable def p_LC (e : Expr) (k : Expr → Str → Pos → Expr → (List Expr) → Scope → Pos → Bool) : Bool := p_LCg e fun x0 y x5 x6 => g1 y fun w => gM w fun a x3 x4 b => p_Name a fun x1 x2 => gI 0 b fun _ => k x0 x1 x2 x3 x4 x5 x6
theorem p_LC_el {P : Expr → Prop} {f : Expr → Str → Pos → Expr → (List Expr) → Scope → Pos → Bool} {e : Expr} (g : ∀ (x0 : Expr) (x1 : Str) (x2 : Pos) (x3 : Expr) (x4 : List Expr) (x5 : Scope) (x6 : Pos), f x0 x1 x2 x3 x4 x5 x6 = true → P (.ListComp x0 [⟨.Name x1 x2, x3, x4, 0⟩] x5 x6)) (h : p_LC e f = true) : P e := by
  refine p_LCg_el (P := fun z => P (z)) (fun x0 y x5 x6 h1 => ?_) h
  refine g1_el (P := fun z => P (.ListComp x0 z x5 x6)) (fun w h2 => ?_) h1
  refine gM_el (P := fun z => P (.ListComp x0 [z] x5 x6)) (fun a x3 x4 b h3 => ?_) h2
  refine p_Name_el (P := fun z => P (.ListComp x0 [⟨z, x3, x4, b⟩] x5 x6)) (fun x1 x2 h4 => ?_) h3
  refine gI_el (P := fun z => P (.ListComp x0 [⟨.Name x1 x2, x3, x4, z⟩] x5 x6)) (fun h5 => ?_) h4
  exact g x0 x1 x2 x3 x4 x5 x6 h5
noncomputable def p_SC (e : Expr) (k : Expr → Str → Pos → Expr → Scope → Pos → Bool) : Bool := b_SC e fun x0 y x4 x5 => g1 y fun w => gM w fun a x3 c b => p_Name a fun x1 x2 => g0 c fun _ => gI 0 b fun _ => k x0 x1 x2 x3 x4 x5
theorem p_SC_el {P : Expr → Prop} {f : Expr → Str → Pos → Expr → Scope → Pos → Bool} {e : Expr} (g : ∀ (x0 : Expr) (x1 : Str) (x2 : Pos) (x3 : Expr) (x4 : Scope) (x5 : Pos), f x0 x1 x2 x3 x4 x5 = true → P (.SetComp x0 [⟨.Name x1 x2, x3, [], 0⟩] x4 x5)) (h : p_SC e f = true) : P e := by
  refine b_SC_el (P := fun z => P (z)) (fun x0 y x4 x5 h1 => ?_) h
  refine g1_el (P := fun z => P (.SetComp x0 z x4 x5)) (fun w h2 => ?_) h1
  refine gM_el (P := fun z => P (.SetComp x0 [z] x4 x5)) (fun a x3 c b h3 => ?_) h2
  refine p_Name_el (P := fun z => P (.SetComp x0 [⟨z, x3, c, b⟩] x4 x5)) (fun x1 x2 h4 => ?_) h3
  refine g0_el (P := fun z => P (.SetComp x0 [⟨.Name x1 x2, x3, z, b⟩] x4 x5)) (fun h5 => ?_) h4
  refine gI_el (P := fun z => P (.SetComp x0 [⟨.Name x1 x2, x3, [], z⟩] x4 x5)) (fun h6 => ?_) h5
  exact g x0 x1 x2 x3 x4 x5 h6
noncomputable def p_CallN (e : Expr) (k : Str → Pos → (List Expr) → Pos → Bool) : Bool := b_Call e fun y x2 w x3 => p_Name y fun x0 x1 => g0 w fun _ => k x0 x1 x2 x3
theorem p_CallN_el {P : Expr → Prop} {f : Str → Pos → (List Expr) → Pos → Bool} {e : Expr} (g : ∀ (x0 : Str) (x1 : Pos) (x2 : List Expr) (x3 : Pos), f x0 x1 x2 x3 = true → P (.Call (.Name x0 x1) x2 [] x3)) (h : p_CallN e f = true) : P e := by
  refine b_Call_el (P := fun z => P (z)) (fun y x2 w x3 h1 => ?_) h
  refine p_Name_el (P := fun z => P (.Call z x2 w x3)) (fun x0 x1 h2 => ?_) h1
  refine g0_el (P := fun z => P (.Call (.Name x0 x1) x2 z x3)) (fun h3 => ?_) h2
  exact g x0 x1 x2 x3 h3
noncomputable def p_Meth (e : Expr) (k : Expr → Str → Pos → (List Expr) → Pos → Bool) : Bool := b_Call e fun y x3 w x4 => p_Att y fun x0 x1 x2 => g0 w fun _ => k x0 x1 x2 x3 x4
theorem p_Meth_el {P : Expr → Prop} {f : Expr → Str → Pos → (List Expr) → Pos → Bool} {e : Expr} (g : ∀ (x0 : Expr) (x1 : Str) (x2 : Pos) (x3 : List Expr) (x4 : Pos), f x0 x1 x2 x3 x4 = true → P (.Call (.Attribute x0 x1 x2) x3 [] x4)) (h : p_Meth e f = true) : P e := by
  refine b_Call_el (P := fun z => P (z)) (fun y x3 w x4 h1 => ?_) h
  refine p_Att_el (P := fun z => P (.Call z x3 w x4)) (fun x0 x1 x2 h2 => ?_) h1
  refine g0_el (P := fun z => P (.Call (.Attribute x0 x1 x2) x3 z x4)) (fun h3 => ?_) h2
  exact g x0 x1 x2 x3 x4 h3
noncomputable def p_Tup2 (e : Expr) (k : Expr → Expr → Nat → Pos → Bool) : Bool := p_Tup e fun y x2 x3 => g2 y fun x0 x1 => k x0 x1 x2 x3
theorem p_Tup2_el {P : Expr → Prop} {f : Expr → Expr → Nat → Pos → Bool} {e : Expr} (g : ∀ (x0 : Expr) (x1 : Expr) (x2 : Nat) (x3 : Pos), f x0 x1 x2 x3 = true → P (.Tuple [x0, x1] x2 x3)) (h : p_Tup2 e f = true) : P e := by
  refine p_Tup_el (P := fun z => P (z)) (fun y x2 x3 h1 => ?_) h
  refine g2_el (P := fun z => P (.Tuple z x2 x3)) (fun x0 x1 h2 => ?_) h1
  exact g x0 x1 x2 x3 h2
noncomputable def p_Nil (e : Expr) (k : Pos → Bool) : Bool := p_Lst e fun y x0 => g0 y fun _ => k x0
theorem p_Nil_el {P : Expr → Prop} {f : Pos → Bool} {e : Expr} (g : ∀ (x0 : Pos), f x0 = true → P (.List [] x0)) (h : p_Nil e f = true) : P e := by
  refine p_Lst_el (P := fun z => P (z)) (fun y x0 h1 => ?_) h
  refine g0_el (P := fun z => P (.List z x0)) (fun h2 => ?_) h1
  exact g x0 h2
noncomputable def p_Asg (e : Stmt) (k : Expr → Expr → Pos → Bool) : Bool := b_Asg e fun y x1 x2 => g1 y fun x0 => k x0 x1 x2
theorem p_Asg_el {P : Stmt → Prop} {f : Expr → Expr → Pos → Bool} {e : Stmt} (g : ∀ (x0 : Expr) (x1 : Expr) (x2 : Pos), f x0 x1 x2 = true → P (.Assign [x0] x1 x2)) (h : p_Asg e f = true) : P e := by
  refine b_Asg_el (P := fun z => P (z)) (fun y x1 x2 h1 => ?_) h
  refine g1_el (P := fun z => P (.Assign z x1 x2)) (fun x0 h2 => ?_) h1
  exact g x0 x1 x2 h2
noncomputable def p_AsgT (e : Stmt) (k : (List Expr) → Nat → Pos → Expr → Pos → Bool) : Bool := p_Asg e fun y x3 x4 => p_Tup y fun x0 x1 x2 => k x0 x1 x2 x3 x4
theorem p_AsgT_el {P : Stmt → Prop} {f : (List Expr) → Nat → Pos → Expr → Pos → Bool} {e : Stmt} (g : ∀ (x0 : List Expr) (x1 : Nat) (x2 : Pos) (x3 : Expr) (x4 : Pos), f x0 x1 x2 x3 x4 = true → P (.Assign [.Tuple x0 x1 x2] x3 x4)) (h : p_AsgT e f = true) : P e := by
  refine p_Asg_el (P := fun z => P (z)) (fun y x3 x4 h1 => ?_) h
  refine p_Tup_el (P := fun z => P (.Assign [z] x3 x4)) (fun x0 x1 x2 h2 => ?_) h1
  exact g x0 x1 x2 x3 x4 h2
noncomputable def p_Aug (e : Stmt) (k : Expr → Expr → Pos → Bool) : Bool := b_Aug e fun x0 y x1 x2 => oAdd y fun _ => k x0 x1 x2
theorem p_Aug_el {P : Stmt → Prop} {f : Expr → Expr → Pos → Bool} {e : Stmt} (g : ∀ (x0 : Expr) (x1 : Expr) (x2 : Pos), f x0 x1 x2 = true → P (.AugAssign x0 .Add x1 x2)) (h : p_Aug e f = true) : P e := by
  refine b_Aug_el (P := fun z => P (z)) (fun x0 y x1 x2 h1 => ?_) h
  refine oAdd_el (P := fun z => P (.AugAssign x0 z x1 x2)) (fun h2 => ?_) h1
  exact g x0 x1 x2 h2
noncomputable def p_Whl (e : Stmt) (k : Expr → (List Stmt) → Pos → Bool) : Bool := b_Whl e fun x0 x1 y x2 => g0 y fun _ => k x0 x1 x2
theorem p_Whl_el {P : Stmt → Prop} {f : Expr → (List Stmt) → Pos → Bool} {e : Stmt} (g : ∀ (x0 : Expr) (x1 : List Stmt) (x2 : Pos), f x0 x1 x2 = true → P (.While x0 x1 [] x2)) (h : p_Whl e f = true) : P e := by
  refine b_Whl_el (P := fun z => P (z)) (fun x0 x1 y x2 h1 => ?_) h
  refine g0_el (P := fun z => P (.While x0 x1 z x2)) (fun h2 => ?_) h1
  exact g x0 x1 x2 h2
noncomputable def p_For (e : Stmt) (k : Expr → Expr → (List Stmt) → Pos → Bool) : Bool := b_For e fun x0 x1 x2 y x3 => g0 y fun _ => k x0 x1 x2 x3
theorem p_For_el {P : Stmt → Prop} {f : Expr → Expr → (List Stmt) → Pos → Bool} {e : Stmt} (g : ∀ (x0 : Expr) (x1 : Expr) (x2 : List Stmt) (x3 : Pos), f x0 x1 x2 x3 = true → P (.For x0 x1 x2 [] x3)) (h : p_For e f = true) : P e := by
  refine b_For_el (P := fun z => P (z)) (fun x0 x1 x2 y x3 h1 => ?_) h
  refine g0_el (P := fun z => P (.For x0 x1 x2 z x3)) (fun h2 => ?_) h1
  exact g x0 x1 x2 x3 h2
noncomputable def p_Ret (e : Stmt) (k : Expr → Pos → Bool) : Bool := b_Ret e fun y x1 => gS y fun x0 => k x0 x1
theorem p_Ret_el {P : Stmt → Prop} {f : Expr → Pos → Bool} {e : Stmt} (g : ∀ (x0 : Expr) (x1 : Pos), f x0 x1 = true → P (.Return (some x0) x1)) (h : p_Ret e f = true) : P e := by
  refine b_Ret_el (P := fun z => P (z)) (fun y x1 h1 => ?_) h
  refine gS_el (P := fun z => P (.Return z x1)) (fun x0 h2 => ?_) h1
  exact g x0 x1 h2
noncomputable def p_Try (e : Stmt) (k : (List Stmt) → (List ExceptHandler) → Pos → Bool) : Bool := b_Try e fun x0 x1 y w x2 => g0 y fun _ => g0 w fun _ => k x0 x1 x2
theorem p_Try_el {P : Stmt → Prop} {f : (List Stmt) → (List ExceptHandler) → Pos → Bool} {e : Stmt} (g : ∀ (x0 : List Stmt) (x1 : List ExceptHandler) (x2 : Pos), f x0 x1 x2 = true → P (.Try x0 x1 [] [] x2)) (h : p_Try e f = true) : P e := by
  refine b_Try_el (P := fun z => P (z)) (fun x0 x1 y w x2 h1 => ?_) h
  refine g0_el (P := fun z => P (.Try x0 x1 z w x2)) (fun h2 => ?_) h1
  refine g0_el (P := fun z => P (.Try x0 x1 [] z x2)) (fun h3 => ?_) h2
  exact g x0 x1 x2 h3

mutual
noncomputable def chX (sc : Scope) : X → Expr → Bool
  | .nil, _ => false
  | .var v, e => p_Name e fun id z1 => (id == Str.ofString v && seesB sc id && !(id == Str.ofString "__debug__"))
  | .int n, e => p_Int e fun i z1 z2 => (i == n)
  | .str s, e => p_StrC e fun x z1 z2 => (x == Str.ofString s && decide (x.length ≤ sizeLine))
  | .bool b, e => p_BoolC e fun c z1 z2 => (b == c)
  | .bin o a b, e => p_Bin e fun l op r z1 => (opB o op && chX sc a l && chX sc b r)
  | .neg a, e => p_Neg e fun x z1 => (chX sc a x)
  | .cmp o a b, e => p_Cmp1 e fun l op r z1 => (cmB o op && chX sc a l && chX sc b r && notSet r)
  | .bop k xs, e => p_Bop e fun op vs z1 => (boB k op && chXs sc xs vs)
  | .not a, e => p_NotE e fun x z1 => (chX sc a x)
  | .ite t a b, e => p_IfE e fun t' a' b' z1 => (chX sc t t' && chX sc a a' && chX sc b b')
  | .list xs, e => p_Lst e fun es z1 => (chXs sc xs es && decide (es.length < 100))
  | .tup xs, e => p_Tup e fun es z1 z2 => (chXs sc xs es && decide (es.length < 100))
  | .idx a b, e => p_Sub e fun v s z1 => (chX sc a v && chX sc b s)
  | .slc a lo hi, e => p_Sub e fun v z1 z2 => p_Sli z1 fun l u z3 => (chX sc a v && (match l with | none => (match lo with | .nil => true | _ => false) | some l' => chX sc lo l') && (match u with | none => (match hi with | .nil => true | _ => false) | some u' => chX sc hi u'))
  | .comp elt v src cond, e => p_LC e fun el x z1 it ifs cs z2 => (x == Str.ofString v && compB sc cs x && chX sc src it && notSet it && chX (relabelS cs sc) elt el && (match ifs with | [] => (match cond with | .nil => true | _ => false) | [i] => chX (relabelS cs sc) cond i | _ => false))
  | .compR elt v n, e => p_LC e fun el x z1 z2 z3 cs z4 => p_CallN z2 fun rg z5 z6 z7 => g1 z6 fun z8 => p_Int z8 fun k z9 z10 => g0 z3 fun _ => (x == Str.ofString v && compB sc cs x && rg == Str.ofString "range" && globB sc rg && k == (n : Int) && decide (n < 64) && chX (relabelS cs sc) elt el)
  | .call f xs, e => p_CallN e fun id z1 args z2 => (id == Str.ofString f && globB sc id && !(id == Str.ofString "__debug__") && !args.isEmpty && chXs sc xs args)
  | .bi f xs, e => p_CallN e fun id z1 args z2 => (id == Str.ofString f && globB sc id && biNames.contains f && !args.isEmpty && chXs sc xs args)
  | .meth m o xs, e => p_Meth e fun o' name apos args pos => (name == Str.ofString m && apos.endLine == pos.line && notSuper o' && chX sc o o' && !args.isEmpty && decide (args.length < 20) && chXs sc xs args)
  | .isBytes a, e => p_CallN e fun id z1 z2 z3 => g2 z2 fun x z4 => p_Name z4 fun b z5 => (id == Str.ofString "isinstance" && globB sc id && b == Str.ofString "bytes" && globB sc b && chX sc a x)
  | .mapF a, e => p_CallN e fun t z1 z2 z3 => g1 z2 fun z4 => p_CallN z4 fun m z5 z6 z7 => g2 z6 fun z8 x => p_Name z8 fun f z9 => (t == Str.ofString "tuple" && globB sc t && m == Str.ofString "map" && globB sc m && f == Str.ofString "fspath" && globB sc f && chX sc a x)
  | .cmpK k l r, e => p_Meth e fun z1 nm apos z2 pos => p_CallN z1 fun c z3 z4 z5 => g1 z4 fun k' => g2 z2 fun l' r' => (c == Str.ofString "TupleComp" && globB sc c && nm == Str.ofString "compare" && apos.endLine == pos.line && chX sc k k' && chX sc l l' && chX sc r r')
  | .cmpV v l r, e => p_Meth e fun z1 nm apos z2 pos => p_Name z1 fun id z3 => g2 z2 fun l' r' => (id == Str.ofString v && seesB sc id && !(id == Str.ofString "__debug__") && nm == Str.ofString "compare" && apos.endLine == pos.line && chX sc l l' && chX sc r r')
  | .keysOf v, e => p_Att e fun z1 nm z2 => p_Name z1 fun id z3 => (id == Str.ofString v && seesB sc id && !(id == Str.ofString "__debug__") && nm == Str.ofString "comp_select_list")
  | .ownLast v, e => p_Sub e fun z1 z2 z3 => p_Name z1 fun id z4 => p_Neg z2 fun z5 z6 => p_Int z5 fun z7 z8 z9 => gI 1 z7 fun _ => (id == Str.ofString v && seesB sc id && !(id == Str.ofString "__debug__"))
  | .ownLen v, e => p_CallN e fun l z1 z2 z3 => g1 z2 fun z4 => p_Name z4 fun id z5 => (l == Str.ofString "len" && globB sc l && id == Str.ofString v && seesB sc id && !(id == Str.ofString "__debug__"))
  | .ownNotIn a v, e => p_Cmp1 e fun l z1 z2 z3 => p_NotIn z1 fun _ => p_Name z2 fun id z4 => (chX sc a l && id == Str.ofString v && seesB sc id && !(id == Str.ofString "__debug__"))
  | .ownSorted v, e => p_CallN e fun l z1 z2 z3 => g1 z2 fun z4 => p_Name z4 fun id z5 => (l == Str.ofString "sorted" && globB sc l && id == Str.ofString v && seesB sc id && !(id == Str.ofString "__debug__"))
noncomputable def chXs (sc : Scope) : List X → List Expr → Bool
  | [], es => es.isEmpty
  | x :: xs, es => match es with | e :: es' => chX sc x e && chXs sc xs es' | [] => false
end

theorem chXs_cn (sc : Scope) (x : X) (xs : List X) : chXs sc (x :: xs) [] = false := rfl
noncomputable def nameB (sc : Scope) (v : String) (e : Expr) : Bool := p_Name e fun id _ => id == Str.ofString v && seesB sc id
/-- a plain local name on that line -/
noncomputable def localB (sc : Scope) (line : Nat) (v : String) (e : Expr) : Bool := p_Name e fun id p => id == Str.ofString v && seesB sc id && sc.names.lookup id == some .local && p.line == line
noncomputable def namesB (sc : Scope) : List String → List Expr → Bool
  | [], es => es.isEmpty
  | v :: vs, es => match es with | e :: es' => nameB sc v e && namesB sc vs es' | [] => false
noncomputable def localsB (sc : Scope) (line : Nat) : List String → List Expr → Bool
  | [], es => es.isEmpty
  | v :: vs, es => match es with | e :: es' => localB sc line v e && localsB sc line vs es' | [] => false
noncomputable def lineOf : List Expr → Nat
  | e :: _ => e.pos.line
  | [] => 0
noncomputable def notStar : Expr → Bool
  | .Starred .. => false
  | _ => true
noncomputable def isTup : Expr → Bool
  | .Tuple .. => true
  | _ => false

mutual
noncomputable def chS (sc : Scope) : S → Stmt → Bool
  | .assign v e, st => p_Asg st fun t value z1 => (nameB sc v t && !isComp value && chX sc e value)
  | .assignC v e, st => p_Asg st fun z1 z2 z3 => p_Name z1 fun id p => p_LCg z2 fun el gs cs cp => (id == Str.ofString v && seesB sc id && sc.names.lookup id == some .local && p.line == cp.line && !(cs.names.any fun (n, k) => n == id && (k == .local || k == .cell)) && chX sc e (.ListComp el gs cs cp))
  | .setTrue v p src sep, st => p_AsgT st fun z1 z2 z3 z4 z5 => g1 z1 fun t => p_SC z4 fun z6 x z7 it cs z8 => p_Meth z6 fun z9 nm apos z10 cpos => p_Name z9 fun p' pp => g1 z10 fun sp => (nameB sc v t && compB sc cs x && x == Str.ofString p && chX sc src it && notSet it && chX (relabelS cs sc) (.meth "startswith" (.var p) [sep]) (.Call (.Attribute (.Name p' pp) nm apos) [sp] [] cpos))
  | .unpack vs e, st => p_AsgT st fun ts z1 z2 value z3 => (namesB sc vs ts && !isComp value && chX sc e value && (!isTup value || (ts.length != 2 && ts.length != 3)) && decide (ts.length < 100))
  | .swap vs es, st => p_AsgT st fun ts z1 z2 z3 z4 => p_Tup z3 fun es' z5 z6 => ((ts.length == 2 || ts.length == 3) && es'.length == ts.length && localsB sc (lineOf ts) vs ts && decide ((vs.map Str.ofString).eraseDups.length = vs.length) && es'.all notStar && !es'.all (foldedForSure 8) && !es'.all (constantsAlone 8) && chXs sc es es')
  | .swapOwn v w e, st => p_AsgT st fun ts z1 z2 z3 z4 => p_Tup2 z3 fun z5 e' k tp => p_Nil z5 fun lp => (localsB sc (lineOf ts) [v, w] ts && decide (([v, w].map Str.ofString).eraseDups.length = 2) && notStar e' && chX sc e e' && !foldedForSure 8 (.List [] lp) && !constantsAlone 8 (.List [] lp))
  | .swapComp v w k, st => p_AsgT st fun ts z1 z2 z3 z4 => p_Tup2 z3 fun z5 z6 z7 z8 => p_Nil z5 fun lp => p_CallN z6 fun c z9 z10 z11 => g1 z10 fun k' => (localsB sc (lineOf ts) [v, w] ts && decide (([v, w].map Str.ofString).eraseDups.length = 2) && c == Str.ofString "TupleComp" && globB sc c && chX sc k k')
  | .newOwn v, st => p_Asg st fun t z1 z2 => p_Nil z1 fun z3 => (nameB sc v t)
  | .freeze w v, st => p_Asg st fun t z1 z2 => p_Name z1 fun id z3 => (nameB sc w t && id == Str.ofString v && seesB sc id && !(id == Str.ofString "__debug__"))
  | .append v e, st => p_ExpS st fun z1 z2 => p_Meth z1 fun z3 nm apos z4 cpos => p_Name z3 fun id z5 => g1 z4 fun e' => (id == Str.ofString v && seesB sc id && !(id == Str.ofString "__debug__") && nm == Str.ofString "append" && apos.endLine == cpos.line && chX sc e e')
  | .pop v, st => p_ExpS st fun z1 z2 => p_Meth z1 fun z3 nm apos z4 cpos => p_Name z3 fun id z5 => g0 z4 fun _ => (id == Str.ofString v && seesB sc id && !(id == Str.ofString "__debug__") && nm == Str.ofString "pop" && apos.endLine == cpos.line)
  | .aug v e, st => p_Aug st fun t value z1 => (nameB sc v t && chX sc e value)
  | .ite t a b, st => p_IfS st fun t' a' b' z1 => (chX sc t t' && chSs sc a a' && chSs sc b b')
  | .whl t a, st => p_Whl st fun t' a' z1 => (chX sc t t' && chSs sc a a')
  | .for1 v src a, st => p_For st fun z1 it a' z2 => p_Name z1 fun id p => (nameB sc v (.Name id p) && chX sc src it && notSet it && chSs sc a a')
  | .forT vs src a, st => p_For st fun z1 it a' z2 => p_Tup z1 fun ts z3 z4 => (namesB sc vs ts && chX sc src it && notSet it && decide (ts.length < 100) && chSs sc a a')
  | .forR v lo hi a, st => p_For st fun z1 z2 a' z3 => p_Name z1 fun id p => p_CallN z2 fun rg z4 args z5 => (nameB sc v (.Name id p) && rg == Str.ofString "range" && globB sc rg && (match args with | [h] => (match lo with | .int 0 => true | _ => false) && chX sc hi h | [l, h] => chX sc lo l && chX sc hi h | _ => false) && chSs sc a a')
  | .forE i v src a, st => p_For st fun z1 z2 a' z3 => p_Tup z1 fun ts z4 z5 => p_CallN z2 fun en z6 z7 z8 => g1 z7 fun it => (namesB sc [i, v] ts && en == Str.ofString "enumerate" && globB sc en && chX sc src it && chSs sc a a')
  | .ret e, st => p_Ret st fun e' z1 => (chX sc e e')
  | .brk, st => p_Brk st fun z1 => (true)
  | .cont, st => p_Cnt st fun z1 => (true)
  | .try_ a, st => p_Try st fun a' z1 z2 => (chSs sc a a')
  | .dead, _ => true
noncomputable def chSs (sc : Scope) : List S → List Stmt → Bool
  | [], es => es.isEmpty
  | s :: r, es => (match s with | .dead => true | _ => false) || (match es with | e :: es' => chS sc s e && chSs sc r es' | [] => false)
end

noncomputable def paramB (sc : Scope) (fx : FX) (a : Arguments) : Bool :=
  a.posonlyargs.isEmpty && a.kwonlyargs.isEmpty && a.kw_defaults.isEmpty && a.kwarg.isNone && a.defaults.isEmpty &&
  a.args.map (·.arg) == fx.ps.map Str.ofString && a.vararg.map (·.arg) == fx.va.map Str.ofString &&
  decide ((fx.ps.map Str.ofString).Nodup) &&
  (fx.ps ++ fx.va.toList).all fun p => seesB sc (Str.ofString p)
noncomputable def scopeB (sc : Scope) : Bool := sc.kind == .function && !sc.isGenerator && !sc.isCoroutine && sc.names.all fun y => y.2 != .free
end Mine
end

section
open PySem PySem.W PyProof.Rows

namespace Mine
set_option tactic.hygienic false

theorem ofString_inj {a b : String} (h : Str.ofString a = Str.ofString b) : a = b := by
  rw [Str.ofString_eq_toList, Str.ofString_eq_toList] at h
  injection h with h
  have h2 : a.toList.map Char.toNat = b.toList.map Char.toNat := by simpa using h
  have : a.toList = b.toList := by
    have inj : ∀ (x y : List Char), x.map Char.toNat = y.map Char.toNat → x = y := by
      intro x
      induction x with
      | nil => intro y e; cases y <;> simp_all
      | cons c x ih =>
        intro y e
        cases y with
        | nil => simp at e
        | cons d y =>
          simp only [List.map_cons, List.cons.injEq] at e
          rw [ih y e.2, show c = d from Char.ext (UInt32.toNat_inj.mp e.1)]
    exact inj _ _ h2
  exact String.toList_inj.mp this

/-- the addresses and names of the world that a proof speaks of -/
structure Wh where
  G : Addr
  B : Addr
  mg : Str → Option Value
  mb : Str → Option Value
  cc : Addr

noncomputable def CmpAt (cc : Addr) (h : Heap) (ex : List Addr) (L b : Addr) (k : PyData) : Prop :=
  ∃ dx hs t n u, h.get? b = some ⟨.ref cc, some dx, .plain, #[]⟩ ∧ h.get? dx = some (dictOf [⟨hs, .str "comp_select_list" t, u⟩] n) ∧ dx ≠ L ∧ Rep h ex u k

/-- what a name holds, read in the heap -/
noncomputable def VarOk (cc L : Addr) (h : Heap) (ex own : List Addr) (a : AV) (v : Option Value) : Prop := match a with
  | .no => True
  | .val d => ∃ u, v = some u ∧ Rep h (own ++ ex) u d
  | .own ds => ∃ b vs n, v = some (.ref b) ∧ b ∈ own ∧ h.get? b = some { cls := .type "list", data := .seq vs.toArray n } ∧ RepAll h (own ++ ex) vs ds ∧ ds.length ≤ 1048576
  | .cmp k => ∃ b, v = some (.ref b) ∧ CmpAt cc h (own ++ ex) L b k

/-- all stays but cells, records of fields and the one address -/
noncomputable def Pres (L : Addr) (h h' : Heap) : Prop := ∀ b o, (∀ vs, o.data ≠ .fields vs) → (∀ v, o.data ≠ .cell v) → b ≠ L → h.get? b = some o → h'.get? b = some o
theorem Grow.pres {h h' : Heap} (g : Grow h h') (L : Addr) : Pres L h h' := fun _ _ _ _ _ e => g _ _ e

theorem Pres.keep {L : Addr} {h h' : Heap} (p : Pres L h h') (hL : ∃ m, h.Ns L m) : ∀ b (o : Obj), (∃ xs n, o.data = .seq xs n) → h.get? b = some o → h'.get? b = some o := by
  intro b o ⟨xs, n, e⟩ g
  refine p b o (fun vs q => by rw [e] at q; cases q) (fun v q => by rw [e] at q; cases q) ?_ g
  rintro rfl
  refine e4_3 (hL) fun m o' es ep g' e' zz => ?_
  rw [g] at g'; cases g'
  rw [e] at e'; cases e'

theorem CmpAt.pres {cc L b : Addr} {h h' : Heap} {ex : List Addr} {k : PyData} (c : CmpAt cc h ex L b k) (p : Pres L h h') (hL : ∃ m, h.Ns L m) : CmpAt cc h' ex L b k := by
  refine e5_4 (c) fun dx hs t n u g gd hd r => ?_
  refine ⟨dx, hs, t, n, u, p _ _ (by intro vs q; cases q) (by intro vs q; cases q) ?_ g, p _ _ (by intro vs q; cases q) (by intro vs q; cases q) hd gd, hd, r.keep fun b o _ q e => p.keep hL b o q e⟩
  rintro rfl
  refine e4_3 (hL) fun m o' es ep g' e' zz => ?_
  rw [g] at g'; cases g'; cases e'

theorem VarOk.pres {cc L : Addr} {h h' : Heap} {ex own : List Addr} {a : AV} {v : Option Value} (x : VarOk cc L h ex own a v) (p : Pres L h h') (hL : ∃ m, h.Ns L m) : VarOk cc L h' ex own a v := by
  cases a with
  | no => trivial
  | val d => obtain ⟨u, e, r⟩ := x; exact ⟨u, e, r.keep fun b o _ q e => p.keep hL b o q e⟩
  | own ds => obtain ⟨b, vs, n, e, m, g, r, l⟩ := x; exact ⟨b, vs, n, e, m, p.keep hL _ _ ⟨_, _, rfl⟩ g, r.keep fun b o _ q e => p.keep hL b o q e, l⟩
  | cmp k => obtain ⟨b, e, c⟩ := x; exact ⟨b, e, c.pres p hL⟩

noncomputable def seen (env : Env) (x : String) : Prop := x ≠ ".0" ∧ (env.kindOf (Str.ofString x) = some .local ∨ env.kindOf (Str.ofString x) = some .cell)

structure EnvOk (W : Wh) (env : Env) : Prop where
  kind : env.scope.kind = .function
  g : env.globals = W.G
  b : env.builtins = W.B

/-- what the frame's names hold -/
noncomputable def Names (cc : Addr) (env : Env) (ex own : List Addr) (ρ : Ro) (h : Heap) (σ : Str → Option Value) : Prop :=
  (∃ m, h.Ns env.locals m ∧ ∀ x, env.kindOf x = some .local → m x = σ x) ∧
  (∀ x, env.kindOf x = some .cell → ∃ c, env.cells.lookup x = some c ∧ h.IsCell c (σ x)) ∧
  (∀ x, seen env x → VarOk cc env.locals h ex own (ρ x) (σ (Str.ofString x)))

structure StE (W : Wh) (H : Heap) (env : Env) (ex own : List Addr) (ρ : Ro) (h : Heap) : Prop where
  grow : Grow H h
  names : ∃ σ, Names W.cc env ex own ρ h σ

theorem Names.grow {cc : Addr} {env : Env} {ex own : List Addr} {ρ : Ro} {h h' : Heap} {σ : Str → Option Value} (n : Names cc env ex own ρ h σ) (g : Grow h h') : Names cc env ex own ρ h' σ := by
  refine e0_3 (n) fun zt7 hc hv => ?_
  refine e1_2 (zt7) fun m hn hm => ?_
  refine ⟨⟨m, hn.keeps g, hm⟩, fun x hx => ?_, fun x hx => (hv x hx).pres (g.pres _) ⟨m, hn⟩⟩
  obtain ⟨c, h1, o, h2, h3⟩ := hc x hx
  exact ⟨c, h1, o, g _ _ h2, h3⟩
theorem StE.up {W : Wh} {H : Heap} {env : Env} {ex own : List Addr} {ρ : Ro} {h h' : Heap} (s : StE W H env ex own ρ h) (g : Grow h h') : StE W H env ex own ρ h' :=
  ⟨s.grow.trans g, let ⟨σ, n⟩ := s.names; ⟨σ, n.grow g⟩⟩

/-- what a seen name gives -/
theorem Names.get {cc : Addr} {env : Env} {ex own : List Addr} {ρ : Ro} {σ : Str → Option Value} {x : String} {prog : Program} {w : World} {A : Around} {E : Value → Shared → Prop} {s : Shared} {v : Value} {Q : Value → Shared → Prop}
    (n : Names cc env ex own ρ s.heap σ) (hk : env.scope.kind = .function) (hx : seen env x) (hv : σ (Str.ofString x) = some v) (h : Q v s) : wpAny (model prog w) A (loadName env (Str.ofString x)) Q E s := by
  refine e0_3 (n) fun zt8 hc zz => ?_
  refine e1_2 (zt8) fun m hn hm => ?_
  rcases hx.2 with hl | hl
  · exact wpAny_loadName_local hk hl hn ((hm _ hl).trans hv) h
  · refine e1_2 (hc _ hl) fun c h1 h2 => ?_
    exact wpAny_loadName_cell hk hl h1 (hv ▸ h2) h

noncomputable def Named (cc : Addr) (env : Env) (ex own : List Addr) (ρ : Ro) (h : Heap) (σ : Str → Option Value) : Prop :=
  Names cc env ex own ρ h σ ∧ ∀ x y ds es, x ≠ y → ρ x = .own ds → ρ y = .own es → seen env x → seen env y → σ (Str.ofString x) ≠ σ (Str.ofString y)

/-- a frame that may change its own names and its own lists -/
structure StS (W : Wh) (H : Heap) (env : Env) (ex own : List Addr) (ρ : Ro) (h : Heap) : Prop where
  grow : Grow H h
  names : ∃ σ, Named W.cc env ex own ρ h σ
  low : H.get? env.locals = none
  cells : ∀ x c, env.cells.lookup x = some c → H.get? c = none ∧ ∃ v, h.IsCell c v
  apart : ∀ x y c, env.cells.lookup x = some c → env.cells.lookup y = some c → x = y
  mine : ∀ a ∈ own, H.get? a = none ∧ ∃ xs n, h.get? a = some { cls := .type "list", data := .seq xs n }

theorem StS.toE {W : Wh} {H : Heap} {env : Env} {ex own : List Addr} {ρ : Ro} {h : Heap} (s : StS W H env ex own ρ h) : StE W H env ex own ρ h := ⟨s.grow, let ⟨σ, n, _⟩ := s.names; ⟨σ, n⟩⟩
theorem StS.hL {W : Wh} {H : Heap} {env : Env} {ex own : List Addr} {ρ : Ro} {h : Heap} (s : StS W H env ex own ρ h) : ∃ m, h.Ns env.locals m := let ⟨_, ⟨⟨m, a, _⟩, _, _⟩, _⟩ := s.names; ⟨m, a⟩
theorem StS.old {W : Wh} {H : Heap} {env : Env} {ex own : List Addr} {ρ : Ro} {s : Shared} (x : StS W H env ex own ρ s.heap) (ho : Old s ex) : Old s (own ++ ex) := fun a m => by
  rcases List.mem_append.mp m with m | m
  · obtain ⟨_, xs, n, e⟩ := x.mine a m; exact ⟨_, e⟩
  · exact ho a m

/-- records of fields may change, all else stays -/
theorem StS.pres {W : Wh} {H : Heap} {env : Env} {ex own : List Addr} {ρ : Ro} {h h' : Heap} (s : StS W H env ex own ρ h) (hg : Grow H h') (hk : ∀ b o, (∀ vs, o.data ≠ .fields vs) → h.get? b = some o → h'.get? b = some o) : StS W H env ex own ρ h' := by
  have p : Pres env.locals h h' := fun b o f _ _ e => hk b o f e
  refine ⟨hg, ?_, s.low, fun x c hx => ?_, s.apart, fun a m => ?_⟩
  · refine e1_2 (s.names) fun σ zt9 hd => ?_
    refine e0_3 (zt9) fun zt10 hc hv => ?_
    refine e1_2 (zt10) fun m hn hm => ?_
    refine ⟨σ, ⟨⟨m, ?_, hm⟩, fun x hx => ?_, fun x hx => (hv x hx).pres p ⟨m, hn⟩⟩, hd⟩
    · refine e3_3 (hn) fun o es ep e q r => ?_
      exact ⟨o, es, ep, hk _ _ (by intro vs z; rw [q] at z; cases z) e, q, r⟩
    · obtain ⟨c, h1, o, h2, h3⟩ := hc x hx
      exact ⟨c, h1, o, hk _ _ (by intro vs z; rw [h3] at z; cases z) h2, h3⟩
  · obtain ⟨a, v, o, h2, h3⟩ := s.cells x c hx
    exact ⟨a, v, o, hk _ _ (by intro vs z; rw [h3] at z; cases z) h2, h3⟩
  · obtain ⟨a1, xs, n, e⟩ := s.mine a m
    exact ⟨a1, xs, n, hk _ _ (by intro vs z; cases z) e⟩
theorem StS.up {W : Wh} {H : Heap} {env : Env} {ex own : List Addr} {ρ : Ro} {h h' : Heap} (s : StS W H env ex own ρ h) (g : Grow h h') : StS W H env ex own ρ h' := s.pres (s.grow.trans g) fun b o _ e => g b o e

/-- what a frame's statements may change -/
noncomputable def Chg (env : Env) (own : List Addr) (h h' : Heap) : Prop := ∀ b o, b ≠ env.locals → (∀ x c, env.cells.lookup x = some c → b ≠ c) → b ∉ own → h.get? b = some o → h'.get? b = some o
theorem Grow.chg {h h' : Heap} (g : Grow h h') (env : Env) (own : List Addr) : Chg env own h h' := fun _ _ _ _ _ e => g _ _ e
noncomputable def Newer (own own' : List Addr) (h : Heap) : Prop := ∀ a ∈ own', a ∈ own ∨ h.get? a = none
theorem Newer.refl (own : List Addr) (h : Heap) : Newer own own h := fun _ m => .inl m
theorem Chg.trans {env : Env} {own own' : List Addr} {h h' h'' : Heap} (a : Chg env own h h') (n : Newer own own' h) (b : Chg env own' h' h'') : Chg env own h h'' := fun x o h1 h2 h3 e =>
  b x o h1 h2 (fun m => (n x m).elim h3 fun z => by exact nsm z e) (a x o h1 h2 h3 e)
/-- what lay untouched stays untouched -/
theorem Newer.trans {env : Env} {own own' own'' : List Addr} {h h' : Heap} (n : Newer own own' h) (c : Chg env own h h') (k : Newer own' own'' h') (hl : ∀ a ∈ own'', a ≠ env.locals ∧ ∀ x c, env.cells.lookup x = some c → a ≠ c) : Newer own own'' h := fun a m => by
  rcases k a m with q | q
  · exact n a q
  · by_cases ha : a ∈ own
    · exact .inl ha
    · refine .inr ?_
      cases e : h.get? a with
      | none => rfl
      | some o =>
        have := c a o (hl a m).1 (hl a m).2 ha e
        exact nsm q this

theorem StS.mineNe {W : Wh} {H : Heap} {env : Env} {ex own : List Addr} {ρ : Ro} {h : Heap} (s : StS W H env ex own ρ h) : ∀ a ∈ own, a ≠ env.locals ∧ ∀ x c, env.cells.lookup x = some c → a ≠ c := fun a m => by
  obtain ⟨_, xs, n, e⟩ := s.mine a m
  refine ⟨?_, fun x c hx => ?_⟩
  · rintro rfl
    refine e4_3 (s.hL) fun mm o' es ep g' e' zz => ?_
    rw [e] at g'; cases g'; cases e'
  · rintro rfl
    obtain ⟨_, v, o, h2, h3⟩ := s.cells x a hx
    rw [e] at h2; cases h2; cases h3

theorem named_dist {env : Env} {ρ : Ro} {x : String} {v : Value} {a : AV} {σ : Str → Option Value}
    (hdist : ∀ x y ds es, x ≠ y → ρ x = .own ds → ρ y = .own es → seen env x → seen env y → σ (Str.ofString x) ≠ σ (Str.ofString y))
    (hd : ∀ ds, a = .own ds → ∀ y es, y ≠ x → ρ y = .own es → seen env y → σ (Str.ofString y) ≠ some v) :
    ∀ p y ds es, p ≠ y → upd ρ x a p = .own ds → upd ρ x a y = .own es → seen env p → seen env y → (fun z => if z = Str.ofString x then some v else σ z) (Str.ofString p) ≠ (fun z => if z = Str.ofString x then some v else σ z) (Str.ofString y) := by
  intro p y ds es hne h1 h2 s1 s2
  have hpx : ∀ q : String, (Str.ofString q = Str.ofString x) ↔ q = x := fun q => ⟨ofString_inj, fun e => e ▸ rfl⟩
  simp only [upd] at h1 h2
  simp only [hpx]
  by_cases e1 : p = x
  · subst e1
    have e2 : y ≠ p := Ne.symm hne
    simp only [if_neg e2] at h1 h2 ⊢
    exact fun e => hd ds h1 y es e2 h2 s2 e.symm
  · by_cases e2 : y = x
    · subst e2
      simp only [if_neg e1] at h1 h2 ⊢
      exact fun e => hd es h2 p ds e1 h1 s1 e
    · simp only [if_neg e1, if_neg e2] at h1 h2 ⊢
      exact hdist p y ds es hne h1 h2 s1 s2

/-- a local name set, and whatever else lay fresh -/
theorem set_local {W : Wh} {H : Heap} {env : Env} {ex own : List Addr} {ρ : Ro} {h h' : Heap} {x : String} {v : Value} {a : AV} {σ m : Str → Option Value}
    (S : StS W H env ex own ρ h) (hl : env.kindOf (Str.ofString x) = some .local) (hn : h.Ns env.locals m) (hm : ∀ y, env.kindOf y = some .local → m y = σ y)
    (hc : ∀ y, env.kindOf y = some .cell → ∃ c, env.cells.lookup y = some c ∧ h.IsCell c (σ y)) (hv : ∀ y, seen env y → VarOk W.cc env.locals h ex own (ρ y) (σ (Str.ofString y)))
    (hdist : ∀ x y ds es, x ≠ y → ρ x = .own ds → ρ y = .own es → seen env x → seen env y → σ (Str.ofString x) ≠ σ (Str.ofString y))
    (hd : ∀ ds, a = .own ds → ∀ y es, y ≠ x → ρ y = .own es → seen env y → σ (Str.ofString y) ≠ some v)
    (hk : ∀ b o, b ≠ env.locals → h.get? b = some o → h'.get? b = some o) (hn' : h'.Ns env.locals fun y => if y = Str.ofString x then some v else m y) (ha : VarOk W.cc env.locals h' ex own a (some v)) :
    StS W H env ex own (upd ρ x a) h' ∧ Named W.cc env ex own (upd ρ x a) h' (fun z => if z = Str.ofString x then some v else σ z) := by
  have p : Pres env.locals h h' := fun b o _ _ hb e => hk b o hb e
  have hcell : ∀ c o, (∃ u, o.data = .cell u) → h.get? c = some o → h'.get? c = some o := by
    intro c o ⟨u, e⟩ g
    refine hk c o ?_ g
    rintro rfl
    refine e3_3 (hn) fun o' es ep g' e' zz => ?_
    rw [g] at g'; cases g'; rw [e] at e'; cases e'
  have ND : Named W.cc env ex own (upd ρ x a) h' (fun z => if z = Str.ofString x then some v else σ z) := by
    refine ⟨⟨⟨_, hn', fun y hy => ?_⟩, fun y hy => ?_, fun y hy => ?_⟩, ?_⟩
    · by_cases e : y = Str.ofString x
      · simp [e]
      · simp [e, hm y hy]
    · obtain ⟨c, h1, o, h2, h3⟩ := hc y hy
      have e : y ≠ Str.ofString x := by rintro rfl; rw [hl] at hy; cases hy
      exact ⟨c, h1, o, hcell c o ⟨_, h3⟩ h2, by simpa [e] using h3⟩
    · by_cases e : y = x
      · subst e
        simp only [upd, if_pos]
        exact ha
      · have e' : Str.ofString y ≠ Str.ofString x := fun z => e (ofString_inj z)
        simp only [upd, if_neg e, if_neg e']
        exact (hv y hy).pres p ⟨m, hn⟩
    · exact named_dist hdist hd
  refine ⟨⟨fun b o e => hk b o (by rintro rfl; rw [StS.low S] at e; cases e) (S.grow b o e), ⟨_, ND⟩, S.low, fun y c hy => ?_, S.apart, fun b mb => ?_⟩, ND⟩
  · obtain ⟨h1, u, o, h2, h3⟩ := S.cells y c hy
    exact ⟨h1, u, o, hcell c o ⟨_, h3⟩ h2, h3⟩
  · obtain ⟨h1, xs, n, e⟩ := S.mine b mb
    exact ⟨h1, xs, n, hk b _ (S.mineNe b mb).1 e⟩

/-- one name set -/
theorem store_ok {W : Wh} {H : Heap} {env : Env} {ex own : List Addr} {ρ : Ro} {s : Shared} {prog : Program} {w : World} {A : Around} {E : Value → Shared → Prop} {x : String} {v : Value} {a : AV} {Q : Unit → Shared → Prop} {σ : Str → Option Value}
    (eo : EnvOk W env) (S : StS W H env ex own ρ s.heap) (hx : seen env x) (ha : VarOk W.cc env.locals s.heap ex own a (some v)) (hN : Named W.cc env ex own ρ s.heap σ)
    (hd : ∀ ds, a = .own ds → ∀ y es, y ≠ x → ρ y = .own es → seen env y → σ (Str.ofString y) ≠ some v)
    (h : ∀ h' tk, StS W H env ex own (upd ρ x a) h' → Chg env [] s.heap h' → Named W.cc env ex own (upd ρ x a) h' (fun z => if z = Str.ofString x then some v else σ z) → Q () { s with heap := h', toks := tk }) : wpAny (model prog w) A (storeName env (Str.ofString x) v) Q E s := by
  refine e0_2 (hN) fun zt11 hdist => ?_
  refine e0_3 (zt11) fun zt12 hc hv => ?_
  refine e1_2 (zt12) fun m hn hm => ?_
  have hp : (env.scope.kind == .class || (env.scope.kind == .module && env.locals != env.globals)) = false := by rw [eo.kind]; rfl
  rcases hx.2 with hl | hl
  · refine wpAny_storeName_local hl hn (fun h' hn' hs' => ?_) hp
    refine e0_2 (set_local S hl hn hm hc hv hdist hd (fun b o hb e => hs'.extBut b o hb e) hn' (ha.pres (fun b o _ _ hb e => hs'.extBut b o hb e) ⟨m, hn⟩)) fun q1 q2 => ?_
    exact h h' _ q1 (fun b o hb _ _ e => hs'.extBut b o hb e) q2
  · obtain ⟨c, h1, o, h2, h3⟩ := hc _ hl
    refine wpAny_storeName_cell eo.kind hl h1 ⟨o, h2, h3⟩ (fun h' hn' hs' => ?_)
    have hcL : env.locals ≠ c := by
      rintro e
      refine e3_3 (hn) fun o' es ep g' e' zz => ?_
      rw [e, h2] at g'; cases g'; rw [h3] at e'; cases e'
    have p : Pres env.locals s.heap h' := fun b o' _ hb _ e => hs'.extBut b o' (by rintro rfl; rw [h2] at e; cases e; exact hb _ h3) e
    have ND : Named W.cc env ex own (upd ρ x a) h' (fun z => if z = Str.ofString x then some v else σ z) := by
      refine ⟨⟨⟨m, hn.sameBut hs' hcL, fun y hy => ?_⟩, fun y hy => ?_, fun y hy => ?_⟩, named_dist hdist hd⟩
      · have e : y ≠ Str.ofString x := by rintro rfl; rw [hl] at hy; cases hy
        simp [e, hm y hy]
      · by_cases e : y = Str.ofString x
        · subst e
          exact ⟨c, h1, by simpa using hn'⟩
        · obtain ⟨c', k1, o', k2, k3⟩ := hc y hy
          have hne : c' ≠ c := by rintro rfl; exact e (S.apart _ _ _ k1 h1)
          exact ⟨c', k1, o', hs'.extBut _ _ hne k2, by simpa [e] using k3⟩
      · by_cases e : y = x
        · subst e
          simp only [upd, if_pos]
          exact ha.pres p ⟨m, hn⟩
        · have e' : Str.ofString y ≠ Str.ofString x := fun z => e (ofString_inj z)
          simp only [upd, if_neg e, if_neg e']
          exact (hv y hy).pres p ⟨m, hn⟩
    refine h h' _ ⟨fun b o e => hs'.extBut b o (by rintro rfl; rw [(StS.cells S _ _ h1).1] at e; cases e) (S.grow b o e), ⟨_, ND⟩, S.low, fun y c' hy => ?_, S.apart, fun b mb => ?_⟩ (fun b o' _ hb _ e => hs'.extBut b o' (hb _ c h1) e) ND
    · by_cases e : c' = c
      · subst e
        exact ⟨(S.cells _ _ hy).1, _, hn'⟩
      · obtain ⟨k1, u, o', k2, k3⟩ := S.cells y c' hy
        exact ⟨k1, u, o', hs'.extBut _ _ e k2, k3⟩
    · obtain ⟨k1, xs, n, e⟩ := S.mine b mb
      exact ⟨k1, xs, n, hs'.extBut b _ ((S.mineNe b mb).2 _ c h1) e⟩
theorem Chg.any {env : Env} {own : List Addr} {h h' : Heap} (c : Chg env [] h h') : Chg env own h h' := fun b o h1 h2 _ e => c b o h1 h2 (fun m => (nomatch m)) e
end Mine
end

section
open PySem PySem.W PyProof.Rows
namespace Mine
set_option tactic.hygienic false
/-! the checker, one law for each form, and what it says of the text -/
theorem sh0 {k : Str → Pos → Bool} {P : Expr → Prop} {y0 : Expr} (g : ∀ (y1 : Str) (y2 : Pos), k y1 y2 = true → P (.Name y1 y2)) (h0 : (p_Name y0 fun y1 y2 => (k y1 y2)) = true) : P y0 := by
  refine p_Name_el (P := fun y0 => P y0) (fun y1 y2 h1 => ?_) h0
  exact g y1 y2 h1
theorem sh1 {k : Int → Nat → Pos → Bool} {P : Expr → Prop} {y0 : Expr} (g : ∀ (y1 : Int) (y2 : Nat) (y3 : Pos), k y1 y2 y3 = true → P (.Constant (.int y1) y2 y3)) (h0 : (p_Int y0 fun y1 y2 y3 => (k y1 y2 y3)) = true) : P y0 := by
  refine p_Int_el (P := fun y0 => P y0) (fun y1 y2 y3 h1 => ?_) h0
  exact g y1 y2 y3 h1
theorem sh2 {k : Str → Nat → Pos → Bool} {P : Expr → Prop} {y0 : Expr} (g : ∀ (y1 : Str) (y2 : Nat) (y3 : Pos), k y1 y2 y3 = true → P (.Constant (.str y1) y2 y3)) (h0 : (p_StrC y0 fun y1 y2 y3 => (k y1 y2 y3)) = true) : P y0 := by
  refine p_StrC_el (P := fun y0 => P y0) (fun y1 y2 y3 h1 => ?_) h0
  exact g y1 y2 y3 h1
theorem sh3 {k : Bool → Nat → Pos → Bool} {P : Expr → Prop} {y0 : Expr} (g : ∀ (y1 : Bool) (y2 : Nat) (y3 : Pos), k y1 y2 y3 = true → P (.Constant (.bool y1) y2 y3)) (h0 : (p_BoolC y0 fun y1 y2 y3 => (k y1 y2 y3)) = true) : P y0 := by
  refine p_BoolC_el (P := fun y0 => P y0) (fun y1 y2 y3 h1 => ?_) h0
  exact g y1 y2 y3 h1
theorem sh4 {k : Expr → Operator → Expr → Pos → Bool} {P : Expr → Prop} {y0 : Expr} (g : ∀ (y1 : Expr) (y2 : Operator) (y3 : Expr) (y4 : Pos), k y1 y2 y3 y4 = true → P (.BinOp y1 y2 y3 y4)) (h0 : (p_Bin y0 fun y1 y2 y3 y4 => (k y1 y2 y3 y4)) = true) : P y0 := by
  refine p_Bin_el (P := fun y0 => P y0) (fun y1 y2 y3 y4 h1 => ?_) h0
  exact g y1 y2 y3 y4 h1
theorem sh5 {k : Expr → Pos → Bool} {P : Expr → Prop} {y0 : Expr} (g : ∀ (y1 : Expr) (y2 : Pos), k y1 y2 = true → P (.UnaryOp .USub y1 y2)) (h0 : (p_Neg y0 fun y1 y2 => (k y1 y2)) = true) : P y0 := by
  refine p_Neg_el (P := fun y0 => P y0) (fun y1 y2 h1 => ?_) h0
  exact g y1 y2 h1
theorem sh6 {k : Expr → CmpOp → Expr → Pos → Bool} {P : Expr → Prop} {y0 : Expr} (g : ∀ (y1 : Expr) (y2 : CmpOp) (y3 : Expr) (y4 : Pos), k y1 y2 y3 y4 = true → P (.Compare y1 [y2] [y3] y4)) (h0 : (p_Cmp1 y0 fun y1 y2 y3 y4 => (k y1 y2 y3 y4)) = true) : P y0 := by
  refine p_Cmp1_el (P := fun y0 => P y0) (fun y1 y2 y3 y4 h1 => ?_) h0
  exact g y1 y2 y3 y4 h1
theorem sh7 {k : BoolOp → List Expr → Pos → Bool} {P : Expr → Prop} {y0 : Expr} (g : ∀ (y1 : BoolOp) (y2 : List Expr) (y3 : Pos), k y1 y2 y3 = true → P (.BoolOp y1 y2 y3)) (h0 : (p_Bop y0 fun y1 y2 y3 => (k y1 y2 y3)) = true) : P y0 := by
  refine p_Bop_el (P := fun y0 => P y0) (fun y1 y2 y3 h1 => ?_) h0
  exact g y1 y2 y3 h1
theorem sh8 {k : Expr → Pos → Bool} {P : Expr → Prop} {y0 : Expr} (g : ∀ (y1 : Expr) (y2 : Pos), k y1 y2 = true → P (.UnaryOp .Not y1 y2)) (h0 : (p_NotE y0 fun y1 y2 => (k y1 y2)) = true) : P y0 := by
  refine p_NotE_el (P := fun y0 => P y0) (fun y1 y2 h1 => ?_) h0
  exact g y1 y2 h1
theorem sh9 {k : Expr → Expr → Expr → Pos → Bool} {P : Expr → Prop} {y0 : Expr} (g : ∀ (y1 : Expr) (y2 : Expr) (y3 : Expr) (y4 : Pos), k y1 y2 y3 y4 = true → P (.IfExp y1 y2 y3 y4)) (h0 : (p_IfE y0 fun y1 y2 y3 y4 => (k y1 y2 y3 y4)) = true) : P y0 := by
  refine p_IfE_el (P := fun y0 => P y0) (fun y1 y2 y3 y4 h1 => ?_) h0
  exact g y1 y2 y3 y4 h1
theorem sh10 {k : List Expr → Pos → Bool} {P : Expr → Prop} {y0 : Expr} (g : ∀ (y1 : List Expr) (y2 : Pos), k y1 y2 = true → P (.List y1 y2)) (h0 : (p_Lst y0 fun y1 y2 => (k y1 y2)) = true) : P y0 := by
  refine p_Lst_el (P := fun y0 => P y0) (fun y1 y2 h1 => ?_) h0
  exact g y1 y2 h1
theorem sh11 {k : List Expr → Nat → Pos → Bool} {P : Expr → Prop} {y0 : Expr} (g : ∀ (y1 : List Expr) (y2 : Nat) (y3 : Pos), k y1 y2 y3 = true → P (.Tuple y1 y2 y3)) (h0 : (p_Tup y0 fun y1 y2 y3 => (k y1 y2 y3)) = true) : P y0 := by
  refine p_Tup_el (P := fun y0 => P y0) (fun y1 y2 y3 h1 => ?_) h0
  exact g y1 y2 y3 h1
theorem sh12 {k : Expr → Expr → Pos → Bool} {P : Expr → Prop} {y0 : Expr} (g : ∀ (y1 : Expr) (y2 : Expr) (y3 : Pos), k y1 y2 y3 = true → P (.Subscript y1 y2 y3)) (h0 : (p_Sub y0 fun y1 y2 y3 => (k y1 y2 y3)) = true) : P y0 := by
  refine p_Sub_el (P := fun y0 => P y0) (fun y1 y2 y3 h1 => ?_) h0
  exact g y1 y2 y3 h1
theorem sh13 {k : Expr → Option Expr → Option Expr → Pos → Pos → Bool} {P : Expr → Prop} {y0 : Expr} (g : ∀ (y1 : Expr) (y4 : Option Expr) (y5 : Option Expr) (y6 : Pos) (y3 : Pos), k y1 y4 y5 y6 y3 = true → P (.Subscript y1 (.Slice y4 y5 none y6) y3)) (h0 : (p_Sub y0 fun y1 y2 y3 => p_Sli y2 fun y4 y5 y6 => (k y1 y4 y5 y6 y3)) = true) : P y0 := by
  refine p_Sub_el (P := fun y0 => P y0) (fun y1 y2 y3 h1 => ?_) h0
  refine p_Sli_el (P := fun y2 => P (.Subscript y1 y2 y3)) (fun y4 y5 y6 h2 => ?_) h1
  exact g y1 y4 y5 y6 y3 h2
theorem sh14 {k : Expr → Str → Pos → Expr → List Expr → Scope → Pos → Bool} {P : Expr → Prop} {y0 : Expr} (g : ∀ (y1 : Expr) (y2 : Str) (y3 : Pos) (y4 : Expr) (y5 : List Expr) (y6 : Scope) (y7 : Pos), k y1 y2 y3 y4 y5 y6 y7 = true → P (.ListComp y1 [⟨(.Name y2 y3), y4, y5, 0⟩] y6 y7)) (h0 : (p_LC y0 fun y1 y2 y3 y4 y5 y6 y7 => (k y1 y2 y3 y4 y5 y6 y7)) = true) : P y0 := by
  refine p_LC_el (P := fun y0 => P y0) (fun y1 y2 y3 y4 y5 y6 y7 h1 => ?_) h0
  exact g y1 y2 y3 y4 y5 y6 y7 h1
theorem sh15 {k : Expr → Str → Pos → Str → Pos → Int → Nat → Pos → Pos → Scope → Pos → Bool} {P : Expr → Prop} {y0 : Expr} (g : ∀ (y1 : Expr) (y2 : Str) (y3 : Pos) (y8 : Str) (y9 : Pos) (y13 : Int) (y14 : Nat) (y15 : Pos) (y11 : Pos) (y6 : Scope) (y7 : Pos), k y1 y2 y3 y8 y9 y13 y14 y15 y11 y6 y7 = true → P (.ListComp y1 [⟨(.Name y2 y3), (.Call (.Name y8 y9) [(.Constant (.int y13) y14 y15)] [] y11), [], 0⟩] y6 y7)) (h0 : (p_LC y0 fun y1 y2 y3 y4 y5 y6 y7 => p_CallN y4 fun y8 y9 y10 y11 => g1 y10 fun y12 => p_Int y12 fun y13 y14 y15 => g0 y5 fun _ => (k y1 y2 y3 y8 y9 y13 y14 y15 y11 y6 y7)) = true) : P y0 := by
  refine p_LC_el (P := fun y0 => P y0) (fun y1 y2 y3 y4 y5 y6 y7 h1 => ?_) h0
  refine p_CallN_el (P := fun y4 => P (.ListComp y1 [⟨(.Name y2 y3), y4, y5, 0⟩] y6 y7)) (fun y8 y9 y10 y11 h2 => ?_) h1
  refine g1_el (P := fun y10 => P (.ListComp y1 [⟨(.Name y2 y3), (.Call (.Name y8 y9) y10 [] y11), y5, 0⟩] y6 y7)) (fun y12 h3 => ?_) h2
  refine p_Int_el (P := fun y12 => P (.ListComp y1 [⟨(.Name y2 y3), (.Call (.Name y8 y9) [y12] [] y11), y5, 0⟩] y6 y7)) (fun y13 y14 y15 h4 => ?_) h3
  refine g0_el (P := fun y5 => P (.ListComp y1 [⟨(.Name y2 y3), (.Call (.Name y8 y9) [(.Constant (.int y13) y14 y15)] [] y11), y5, 0⟩] y6 y7)) (fun  h5 => ?_) h4
  exact g y1 y2 y3 y8 y9 y13 y14 y15 y11 y6 y7 h5
theorem sh16 {k : Str → Pos → List Expr → Pos → Bool} {P : Expr → Prop} {y0 : Expr} (g : ∀ (y1 : Str) (y2 : Pos) (y3 : List Expr) (y4 : Pos), k y1 y2 y3 y4 = true → P (.Call (.Name y1 y2) y3 [] y4)) (h0 : (p_CallN y0 fun y1 y2 y3 y4 => (k y1 y2 y3 y4)) = true) : P y0 := by
  refine p_CallN_el (P := fun y0 => P y0) (fun y1 y2 y3 y4 h1 => ?_) h0
  exact g y1 y2 y3 y4 h1
theorem sh17 {k : Expr → Str → Pos → List Expr → Pos → Bool} {P : Expr → Prop} {y0 : Expr} (g : ∀ (y1 : Expr) (y2 : Str) (y3 : Pos) (y4 : List Expr) (y5 : Pos), k y1 y2 y3 y4 y5 = true → P (.Call (.Attribute y1 y2 y3) y4 [] y5)) (h0 : (p_Meth y0 fun y1 y2 y3 y4 y5 => (k y1 y2 y3 y4 y5)) = true) : P y0 := by
  refine p_Meth_el (P := fun y0 => P y0) (fun y1 y2 y3 y4 y5 h1 => ?_) h0
  exact g y1 y2 y3 y4 y5 h1
theorem sh18 {k : Str → Pos → Expr → Str → Pos → Pos → Bool} {P : Expr → Prop} {y0 : Expr} (g : ∀ (y1 : Str) (y2 : Pos) (y5 : Expr) (y7 : Str) (y8 : Pos) (y4 : Pos), k y1 y2 y5 y7 y8 y4 = true → P (.Call (.Name y1 y2) [y5, (.Name y7 y8)] [] y4)) (h0 : (p_CallN y0 fun y1 y2 y3 y4 => g2 y3 fun y5 y6 => p_Name y6 fun y7 y8 => (k y1 y2 y5 y7 y8 y4)) = true) : P y0 := by
  refine p_CallN_el (P := fun y0 => P y0) (fun y1 y2 y3 y4 h1 => ?_) h0
  refine g2_el (P := fun y3 => P (.Call (.Name y1 y2) y3 [] y4)) (fun y5 y6 h2 => ?_) h1
  refine p_Name_el (P := fun y6 => P (.Call (.Name y1 y2) [y5, y6] [] y4)) (fun y7 y8 h3 => ?_) h2
  exact g y1 y2 y5 y7 y8 y4 h3
theorem sh19 {k : Str → Pos → Str → Pos → Str → Pos → Expr → Pos → Pos → Bool} {P : Expr → Prop} {y0 : Expr} (g : ∀ (y1 : Str) (y2 : Pos) (y6 : Str) (y7 : Pos) (y12 : Str) (y13 : Pos) (y11 : Expr) (y9 : Pos) (y4 : Pos), k y1 y2 y6 y7 y12 y13 y11 y9 y4 = true → P (.Call (.Name y1 y2) [(.Call (.Name y6 y7) [(.Name y12 y13), y11] [] y9)] [] y4)) (h0 : (p_CallN y0 fun y1 y2 y3 y4 => g1 y3 fun y5 => p_CallN y5 fun y6 y7 y8 y9 => g2 y8 fun y10 y11 => p_Name y10 fun y12 y13 => (k y1 y2 y6 y7 y12 y13 y11 y9 y4)) = true) : P y0 := by
  refine p_CallN_el (P := fun y0 => P y0) (fun y1 y2 y3 y4 h1 => ?_) h0
  refine g1_el (P := fun y3 => P (.Call (.Name y1 y2) y3 [] y4)) (fun y5 h2 => ?_) h1
  refine p_CallN_el (P := fun y5 => P (.Call (.Name y1 y2) [y5] [] y4)) (fun y6 y7 y8 y9 h3 => ?_) h2
  refine g2_el (P := fun y8 => P (.Call (.Name y1 y2) [(.Call (.Name y6 y7) y8 [] y9)] [] y4)) (fun y10 y11 h4 => ?_) h3
  refine p_Name_el (P := fun y10 => P (.Call (.Name y1 y2) [(.Call (.Name y6 y7) [y10, y11] [] y9)] [] y4)) (fun y12 y13 h5 => ?_) h4
  exact g y1 y2 y6 y7 y12 y13 y11 y9 y4 h5
theorem sh20 {k : Str → Pos → Expr → Pos → Str → Pos → Expr → Expr → Pos → Bool} {P : Expr → Prop} {y0 : Expr} (g : ∀ (y6 : Str) (y7 : Pos) (y10 : Expr) (y9 : Pos) (y2 : Str) (y3 : Pos) (y11 : Expr) (y12 : Expr) (y5 : Pos), k y6 y7 y10 y9 y2 y3 y11 y12 y5 = true → P (.Call (.Attribute (.Call (.Name y6 y7) [y10] [] y9) y2 y3) [y11, y12] [] y5)) (h0 : (p_Meth y0 fun y1 y2 y3 y4 y5 => p_CallN y1 fun y6 y7 y8 y9 => g1 y8 fun y10 => g2 y4 fun y11 y12 => (k y6 y7 y10 y9 y2 y3 y11 y12 y5)) = true) : P y0 := by
  refine p_Meth_el (P := fun y0 => P y0) (fun y1 y2 y3 y4 y5 h1 => ?_) h0
  refine p_CallN_el (P := fun y1 => P (.Call (.Attribute y1 y2 y3) y4 [] y5)) (fun y6 y7 y8 y9 h2 => ?_) h1
  refine g1_el (P := fun y8 => P (.Call (.Attribute (.Call (.Name y6 y7) y8 [] y9) y2 y3) y4 [] y5)) (fun y10 h3 => ?_) h2
  refine g2_el (P := fun y4 => P (.Call (.Attribute (.Call (.Name y6 y7) [y10] [] y9) y2 y3) y4 [] y5)) (fun y11 y12 h4 => ?_) h3
  exact g y6 y7 y10 y9 y2 y3 y11 y12 y5 h4
theorem sh21 {k : Str → Pos → Str → Pos → Expr → Expr → Pos → Bool} {P : Expr → Prop} {y0 : Expr} (g : ∀ (y6 : Str) (y7 : Pos) (y2 : Str) (y3 : Pos) (y8 : Expr) (y9 : Expr) (y5 : Pos), k y6 y7 y2 y3 y8 y9 y5 = true → P (.Call (.Attribute (.Name y6 y7) y2 y3) [y8, y9] [] y5)) (h0 : (p_Meth y0 fun y1 y2 y3 y4 y5 => p_Name y1 fun y6 y7 => g2 y4 fun y8 y9 => (k y6 y7 y2 y3 y8 y9 y5)) = true) : P y0 := by
  refine p_Meth_el (P := fun y0 => P y0) (fun y1 y2 y3 y4 y5 h1 => ?_) h0
  refine p_Name_el (P := fun y1 => P (.Call (.Attribute y1 y2 y3) y4 [] y5)) (fun y6 y7 h2 => ?_) h1
  refine g2_el (P := fun y4 => P (.Call (.Attribute (.Name y6 y7) y2 y3) y4 [] y5)) (fun y8 y9 h3 => ?_) h2
  exact g y6 y7 y2 y3 y8 y9 y5 h3
theorem sh22 {k : Str → Pos → Str → Pos → Bool} {P : Expr → Prop} {y0 : Expr} (g : ∀ (y4 : Str) (y5 : Pos) (y2 : Str) (y3 : Pos), k y4 y5 y2 y3 = true → P (.Attribute (.Name y4 y5) y2 y3)) (h0 : (p_Att y0 fun y1 y2 y3 => p_Name y1 fun y4 y5 => (k y4 y5 y2 y3)) = true) : P y0 := by
  refine p_Att_el (P := fun y0 => P y0) (fun y1 y2 y3 h1 => ?_) h0
  refine p_Name_el (P := fun y1 => P (.Attribute y1 y2 y3)) (fun y4 y5 h2 => ?_) h1
  exact g y4 y5 y2 y3 h2
theorem sh23 {k : Str → Pos → Nat → Pos → Pos → Pos → Bool} {P : Expr → Prop} {y0 : Expr} (g : ∀ (y4 : Str) (y5 : Pos) (y9 : Nat) (y10 : Pos) (y7 : Pos) (y3 : Pos), k y4 y5 y9 y10 y7 y3 = true → P (.Subscript (.Name y4 y5) (.UnaryOp .USub (.Constant (.int 1) y9 y10) y7) y3)) (h0 : (p_Sub y0 fun y1 y2 y3 => p_Name y1 fun y4 y5 => p_Neg y2 fun y6 y7 => p_Int y6 fun y8 y9 y10 => gI 1 y8 fun _ => (k y4 y5 y9 y10 y7 y3)) = true) : P y0 := by
  refine p_Sub_el (P := fun y0 => P y0) (fun y1 y2 y3 h1 => ?_) h0
  refine p_Name_el (P := fun y1 => P (.Subscript y1 y2 y3)) (fun y4 y5 h2 => ?_) h1
  refine p_Neg_el (P := fun y2 => P (.Subscript (.Name y4 y5) y2 y3)) (fun y6 y7 h3 => ?_) h2
  refine p_Int_el (P := fun y6 => P (.Subscript (.Name y4 y5) (.UnaryOp .USub y6 y7) y3)) (fun y8 y9 y10 h4 => ?_) h3
  refine gI_el (P := fun y8 => P (.Subscript (.Name y4 y5) (.UnaryOp .USub (.Constant (.int y8) y9 y10) y7) y3)) (fun  h5 => ?_) h4
  exact g y4 y5 y9 y10 y7 y3 h5
theorem sh24 {k : Str → Pos → Str → Pos → Pos → Bool} {P : Expr → Prop} {y0 : Expr} (g : ∀ (y1 : Str) (y2 : Pos) (y6 : Str) (y7 : Pos) (y4 : Pos), k y1 y2 y6 y7 y4 = true → P (.Call (.Name y1 y2) [(.Name y6 y7)] [] y4)) (h0 : (p_CallN y0 fun y1 y2 y3 y4 => g1 y3 fun y5 => p_Name y5 fun y6 y7 => (k y1 y2 y6 y7 y4)) = true) : P y0 := by
  refine p_CallN_el (P := fun y0 => P y0) (fun y1 y2 y3 y4 h1 => ?_) h0
  refine g1_el (P := fun y3 => P (.Call (.Name y1 y2) y3 [] y4)) (fun y5 h2 => ?_) h1
  refine p_Name_el (P := fun y5 => P (.Call (.Name y1 y2) [y5] [] y4)) (fun y6 y7 h3 => ?_) h2
  exact g y1 y2 y6 y7 y4 h3
theorem sh25 {k : Expr → Str → Pos → Pos → Bool} {P : Expr → Prop} {y0 : Expr} (g : ∀ (y1 : Expr) (y5 : Str) (y6 : Pos) (y4 : Pos), k y1 y5 y6 y4 = true → P (.Compare y1 [.NotIn] [(.Name y5 y6)] y4)) (h0 : (p_Cmp1 y0 fun y1 y2 y3 y4 => p_NotIn y2 fun _ => p_Name y3 fun y5 y6 => (k y1 y5 y6 y4)) = true) : P y0 := by
  refine p_Cmp1_el (P := fun y0 => P y0) (fun y1 y2 y3 y4 h1 => ?_) h0
  refine p_NotIn_el (P := fun y2 => P (.Compare y1 [y2] [y3] y4)) (fun  h2 => ?_) h1
  refine p_Name_el (P := fun y3 => P (.Compare y1 [.NotIn] [y3] y4)) (fun y5 y6 h3 => ?_) h2
  exact g y1 y5 y6 y4 h3
theorem sh26 {k : Expr → Expr → Pos → Bool} {P : Stmt → Prop} {y0 : Stmt} (g : ∀ (y1 : Expr) (y2 : Expr) (y3 : Pos), k y1 y2 y3 = true → P (.Assign [y1] y2 y3)) (h0 : (p_Asg y0 fun y1 y2 y3 => (k y1 y2 y3)) = true) : P y0 := by
  refine p_Asg_el (P := fun y0 => P y0) (fun y1 y2 y3 h1 => ?_) h0
  exact g y1 y2 y3 h1
theorem sh27 {k : Str → Pos → Expr → List Comprehension → Scope → Pos → Pos → Bool} {P : Stmt → Prop} {y0 : Stmt} (g : ∀ (y4 : Str) (y5 : Pos) (y6 : Expr) (y7 : List Comprehension) (y8 : Scope) (y9 : Pos) (y3 : Pos), k y4 y5 y6 y7 y8 y9 y3 = true → P (.Assign [(.Name y4 y5)] (.ListComp y6 y7 y8 y9) y3)) (h0 : (p_Asg y0 fun y1 y2 y3 => p_Name y1 fun y4 y5 => p_LCg y2 fun y6 y7 y8 y9 => (k y4 y5 y6 y7 y8 y9 y3)) = true) : P y0 := by
  refine p_Asg_el (P := fun y0 => P y0) (fun y1 y2 y3 h1 => ?_) h0
  refine p_Name_el (P := fun y1 => P (.Assign [y1] y2 y3)) (fun y4 y5 h2 => ?_) h1
  refine p_LCg_el (P := fun y2 => P (.Assign [(.Name y4 y5)] y2 y3)) (fun y6 y7 y8 y9 h3 => ?_) h2
  exact g y4 y5 y6 y7 y8 y9 y3 h3
theorem sh28 {k : Expr → Nat → Pos → Str → Pos → Str → Pos → Expr → Pos → Str → Pos → Expr → Scope → Pos → Pos → Bool} {P : Stmt → Prop} {y0 : Stmt} (g : ∀ (y6 : Expr) (y2 : Nat) (y3 : Pos) (y18 : Str) (y19 : Pos) (y14 : Str) (y15 : Pos) (y20 : Expr) (y17 : Pos) (y8 : Str) (y9 : Pos) (y10 : Expr) (y11 : Scope) (y12 : Pos) (y5 : Pos), k y6 y2 y3 y18 y19 y14 y15 y20 y17 y8 y9 y10 y11 y12 y5 = true → P (.Assign [(.Tuple [y6] y2 y3)] (.SetComp (.Call (.Attribute (.Name y18 y19) y14 y15) [y20] [] y17) [⟨(.Name y8 y9), y10, [], 0⟩] y11 y12) y5)) (h0 : (p_AsgT y0 fun y1 y2 y3 y4 y5 => g1 y1 fun y6 => p_SC y4 fun y7 y8 y9 y10 y11 y12 => p_Meth y7 fun y13 y14 y15 y16 y17 => p_Name y13 fun y18 y19 => g1 y16 fun y20 => (k y6 y2 y3 y18 y19 y14 y15 y20 y17 y8 y9 y10 y11 y12 y5)) = true) : P y0 := by
  refine p_AsgT_el (P := fun y0 => P y0) (fun y1 y2 y3 y4 y5 h1 => ?_) h0
  refine g1_el (P := fun y1 => P (.Assign [(.Tuple y1 y2 y3)] y4 y5)) (fun y6 h2 => ?_) h1
  refine p_SC_el (P := fun y4 => P (.Assign [(.Tuple [y6] y2 y3)] y4 y5)) (fun y7 y8 y9 y10 y11 y12 h3 => ?_) h2
  refine p_Meth_el (P := fun y7 => P (.Assign [(.Tuple [y6] y2 y3)] (.SetComp y7 [⟨(.Name y8 y9), y10, [], 0⟩] y11 y12) y5)) (fun y13 y14 y15 y16 y17 h4 => ?_) h3
  refine p_Name_el (P := fun y13 => P (.Assign [(.Tuple [y6] y2 y3)] (.SetComp (.Call (.Attribute y13 y14 y15) y16 [] y17) [⟨(.Name y8 y9), y10, [], 0⟩] y11 y12) y5)) (fun y18 y19 h5 => ?_) h4
  refine g1_el (P := fun y16 => P (.Assign [(.Tuple [y6] y2 y3)] (.SetComp (.Call (.Attribute (.Name y18 y19) y14 y15) y16 [] y17) [⟨(.Name y8 y9), y10, [], 0⟩] y11 y12) y5)) (fun y20 h6 => ?_) h5
  exact g y6 y2 y3 y18 y19 y14 y15 y20 y17 y8 y9 y10 y11 y12 y5 h6
theorem sh29 {k : List Expr → Nat → Pos → Expr → Pos → Bool} {P : Stmt → Prop} {y0 : Stmt} (g : ∀ (y1 : List Expr) (y2 : Nat) (y3 : Pos) (y4 : Expr) (y5 : Pos), k y1 y2 y3 y4 y5 = true → P (.Assign [(.Tuple y1 y2 y3)] y4 y5)) (h0 : (p_AsgT y0 fun y1 y2 y3 y4 y5 => (k y1 y2 y3 y4 y5)) = true) : P y0 := by
  refine p_AsgT_el (P := fun y0 => P y0) (fun y1 y2 y3 y4 y5 h1 => ?_) h0
  exact g y1 y2 y3 y4 y5 h1
theorem sh30 {k : List Expr → Nat → Pos → List Expr → Nat → Pos → Pos → Bool} {P : Stmt → Prop} {y0 : Stmt} (g : ∀ (y1 : List Expr) (y2 : Nat) (y3 : Pos) (y6 : List Expr) (y7 : Nat) (y8 : Pos) (y5 : Pos), k y1 y2 y3 y6 y7 y8 y5 = true → P (.Assign [(.Tuple y1 y2 y3)] (.Tuple y6 y7 y8) y5)) (h0 : (p_AsgT y0 fun y1 y2 y3 y4 y5 => p_Tup y4 fun y6 y7 y8 => (k y1 y2 y3 y6 y7 y8 y5)) = true) : P y0 := by
  refine p_AsgT_el (P := fun y0 => P y0) (fun y1 y2 y3 y4 y5 h1 => ?_) h0
  refine p_Tup_el (P := fun y4 => P (.Assign [(.Tuple y1 y2 y3)] y4 y5)) (fun y6 y7 y8 h2 => ?_) h1
  exact g y1 y2 y3 y6 y7 y8 y5 h2
theorem sh31 {k : List Expr → Nat → Pos → Pos → Expr → Nat → Pos → Pos → Bool} {P : Stmt → Prop} {y0 : Stmt} (g : ∀ (y1 : List Expr) (y2 : Nat) (y3 : Pos) (y10 : Pos) (y7 : Expr) (y8 : Nat) (y9 : Pos) (y5 : Pos), k y1 y2 y3 y10 y7 y8 y9 y5 = true → P (.Assign [(.Tuple y1 y2 y3)] (.Tuple [(.List [] y10), y7] y8 y9) y5)) (h0 : (p_AsgT y0 fun y1 y2 y3 y4 y5 => p_Tup2 y4 fun y6 y7 y8 y9 => p_Nil y6 fun y10 => (k y1 y2 y3 y10 y7 y8 y9 y5)) = true) : P y0 := by
  refine p_AsgT_el (P := fun y0 => P y0) (fun y1 y2 y3 y4 y5 h1 => ?_) h0
  refine p_Tup2_el (P := fun y4 => P (.Assign [(.Tuple y1 y2 y3)] y4 y5)) (fun y6 y7 y8 y9 h2 => ?_) h1
  refine p_Nil_el (P := fun y6 => P (.Assign [(.Tuple y1 y2 y3)] (.Tuple [y6, y7] y8 y9) y5)) (fun y10 h3 => ?_) h2
  exact g y1 y2 y3 y10 y7 y8 y9 y5 h3
theorem sh32 {k : List Expr → Nat → Pos → Pos → Str → Pos → Expr → Pos → Nat → Pos → Pos → Bool} {P : Stmt → Prop} {y0 : Stmt} (g : ∀ (y1 : List Expr) (y2 : Nat) (y3 : Pos) (y10 : Pos) (y11 : Str) (y12 : Pos) (y15 : Expr) (y14 : Pos) (y8 : Nat) (y9 : Pos) (y5 : Pos), k y1 y2 y3 y10 y11 y12 y15 y14 y8 y9 y5 = true → P (.Assign [(.Tuple y1 y2 y3)] (.Tuple [(.List [] y10), (.Call (.Name y11 y12) [y15] [] y14)] y8 y9) y5)) (h0 : (p_AsgT y0 fun y1 y2 y3 y4 y5 => p_Tup2 y4 fun y6 y7 y8 y9 => p_Nil y6 fun y10 => p_CallN y7 fun y11 y12 y13 y14 => g1 y13 fun y15 => (k y1 y2 y3 y10 y11 y12 y15 y14 y8 y9 y5)) = true) : P y0 := by
  refine p_AsgT_el (P := fun y0 => P y0) (fun y1 y2 y3 y4 y5 h1 => ?_) h0
  refine p_Tup2_el (P := fun y4 => P (.Assign [(.Tuple y1 y2 y3)] y4 y5)) (fun y6 y7 y8 y9 h2 => ?_) h1
  refine p_Nil_el (P := fun y6 => P (.Assign [(.Tuple y1 y2 y3)] (.Tuple [y6, y7] y8 y9) y5)) (fun y10 h3 => ?_) h2
  refine p_CallN_el (P := fun y7 => P (.Assign [(.Tuple y1 y2 y3)] (.Tuple [(.List [] y10), y7] y8 y9) y5)) (fun y11 y12 y13 y14 h4 => ?_) h3
  refine g1_el (P := fun y13 => P (.Assign [(.Tuple y1 y2 y3)] (.Tuple [(.List [] y10), (.Call (.Name y11 y12) y13 [] y14)] y8 y9) y5)) (fun y15 h5 => ?_) h4
  exact g y1 y2 y3 y10 y11 y12 y15 y14 y8 y9 y5 h5
theorem sh33 {k : Expr → Pos → Pos → Bool} {P : Stmt → Prop} {y0 : Stmt} (g : ∀ (y1 : Expr) (y4 : Pos) (y3 : Pos), k y1 y4 y3 = true → P (.Assign [y1] (.List [] y4) y3)) (h0 : (p_Asg y0 fun y1 y2 y3 => p_Nil y2 fun y4 => (k y1 y4 y3)) = true) : P y0 := by
  refine p_Asg_el (P := fun y0 => P y0) (fun y1 y2 y3 h1 => ?_) h0
  refine p_Nil_el (P := fun y2 => P (.Assign [y1] y2 y3)) (fun y4 h2 => ?_) h1
  exact g y1 y4 y3 h2
theorem sh34 {k : Expr → Str → Pos → Pos → Bool} {P : Stmt → Prop} {y0 : Stmt} (g : ∀ (y1 : Expr) (y4 : Str) (y5 : Pos) (y3 : Pos), k y1 y4 y5 y3 = true → P (.Assign [y1] (.Name y4 y5) y3)) (h0 : (p_Asg y0 fun y1 y2 y3 => p_Name y2 fun y4 y5 => (k y1 y4 y5 y3)) = true) : P y0 := by
  refine p_Asg_el (P := fun y0 => P y0) (fun y1 y2 y3 h1 => ?_) h0
  refine p_Name_el (P := fun y2 => P (.Assign [y1] y2 y3)) (fun y4 y5 h2 => ?_) h1
  exact g y1 y4 y5 y3 h2
theorem sh35 {k : Str → Pos → Str → Pos → Expr → Pos → Pos → Bool} {P : Stmt → Prop} {y0 : Stmt} (g : ∀ (y8 : Str) (y9 : Pos) (y4 : Str) (y5 : Pos) (y10 : Expr) (y7 : Pos) (y2 : Pos), k y8 y9 y4 y5 y10 y7 y2 = true → P (.Expr (.Call (.Attribute (.Name y8 y9) y4 y5) [y10] [] y7) y2)) (h0 : (p_ExpS y0 fun y1 y2 => p_Meth y1 fun y3 y4 y5 y6 y7 => p_Name y3 fun y8 y9 => g1 y6 fun y10 => (k y8 y9 y4 y5 y10 y7 y2)) = true) : P y0 := by
  refine p_ExpS_el (P := fun y0 => P y0) (fun y1 y2 h1 => ?_) h0
  refine p_Meth_el (P := fun y1 => P (.Expr y1 y2)) (fun y3 y4 y5 y6 y7 h2 => ?_) h1
  refine p_Name_el (P := fun y3 => P (.Expr (.Call (.Attribute y3 y4 y5) y6 [] y7) y2)) (fun y8 y9 h3 => ?_) h2
  refine g1_el (P := fun y6 => P (.Expr (.Call (.Attribute (.Name y8 y9) y4 y5) y6 [] y7) y2)) (fun y10 h4 => ?_) h3
  exact g y8 y9 y4 y5 y10 y7 y2 h4
theorem sh36 {k : Str → Pos → Str → Pos → Pos → Pos → Bool} {P : Stmt → Prop} {y0 : Stmt} (g : ∀ (y8 : Str) (y9 : Pos) (y4 : Str) (y5 : Pos) (y7 : Pos) (y2 : Pos), k y8 y9 y4 y5 y7 y2 = true → P (.Expr (.Call (.Attribute (.Name y8 y9) y4 y5) [] [] y7) y2)) (h0 : (p_ExpS y0 fun y1 y2 => p_Meth y1 fun y3 y4 y5 y6 y7 => p_Name y3 fun y8 y9 => g0 y6 fun _ => (k y8 y9 y4 y5 y7 y2)) = true) : P y0 := by
  refine p_ExpS_el (P := fun y0 => P y0) (fun y1 y2 h1 => ?_) h0
  refine p_Meth_el (P := fun y1 => P (.Expr y1 y2)) (fun y3 y4 y5 y6 y7 h2 => ?_) h1
  refine p_Name_el (P := fun y3 => P (.Expr (.Call (.Attribute y3 y4 y5) y6 [] y7) y2)) (fun y8 y9 h3 => ?_) h2
  refine g0_el (P := fun y6 => P (.Expr (.Call (.Attribute (.Name y8 y9) y4 y5) y6 [] y7) y2)) (fun  h4 => ?_) h3
  exact g y8 y9 y4 y5 y7 y2 h4
theorem sh37 {k : Expr → Expr → Pos → Bool} {P : Stmt → Prop} {y0 : Stmt} (g : ∀ (y1 : Expr) (y2 : Expr) (y3 : Pos), k y1 y2 y3 = true → P (.AugAssign y1 .Add y2 y3)) (h0 : (p_Aug y0 fun y1 y2 y3 => (k y1 y2 y3)) = true) : P y0 := by
  refine p_Aug_el (P := fun y0 => P y0) (fun y1 y2 y3 h1 => ?_) h0
  exact g y1 y2 y3 h1
theorem sh38 {k : Expr → List Stmt → List Stmt → Pos → Bool} {P : Stmt → Prop} {y0 : Stmt} (g : ∀ (y1 : Expr) (y2 : List Stmt) (y3 : List Stmt) (y4 : Pos), k y1 y2 y3 y4 = true → P (.If y1 y2 y3 y4)) (h0 : (p_IfS y0 fun y1 y2 y3 y4 => (k y1 y2 y3 y4)) = true) : P y0 := by
  refine p_IfS_el (P := fun y0 => P y0) (fun y1 y2 y3 y4 h1 => ?_) h0
  exact g y1 y2 y3 y4 h1
theorem sh39 {k : Expr → List Stmt → Pos → Bool} {P : Stmt → Prop} {y0 : Stmt} (g : ∀ (y1 : Expr) (y2 : List Stmt) (y3 : Pos), k y1 y2 y3 = true → P (.While y1 y2 [] y3)) (h0 : (p_Whl y0 fun y1 y2 y3 => (k y1 y2 y3)) = true) : P y0 := by
  refine p_Whl_el (P := fun y0 => P y0) (fun y1 y2 y3 h1 => ?_) h0
  exact g y1 y2 y3 h1
theorem sh40 {k : Str → Pos → Expr → List Stmt → Pos → Bool} {P : Stmt → Prop} {y0 : Stmt} (g : ∀ (y5 : Str) (y6 : Pos) (y2 : Expr) (y3 : List Stmt) (y4 : Pos), k y5 y6 y2 y3 y4 = true → P (.For (.Name y5 y6) y2 y3 [] y4)) (h0 : (p_For y0 fun y1 y2 y3 y4 => p_Name y1 fun y5 y6 => (k y5 y6 y2 y3 y4)) = true) : P y0 := by
  refine p_For_el (P := fun y0 => P y0) (fun y1 y2 y3 y4 h1 => ?_) h0
  refine p_Name_el (P := fun y1 => P (.For y1 y2 y3 [] y4)) (fun y5 y6 h2 => ?_) h1
  exact g y5 y6 y2 y3 y4 h2
theorem sh41 {k : List Expr → Nat → Pos → Expr → List Stmt → Pos → Bool} {P : Stmt → Prop} {y0 : Stmt} (g : ∀ (y5 : List Expr) (y6 : Nat) (y7 : Pos) (y2 : Expr) (y3 : List Stmt) (y4 : Pos), k y5 y6 y7 y2 y3 y4 = true → P (.For (.Tuple y5 y6 y7) y2 y3 [] y4)) (h0 : (p_For y0 fun y1 y2 y3 y4 => p_Tup y1 fun y5 y6 y7 => (k y5 y6 y7 y2 y3 y4)) = true) : P y0 := by
  refine p_For_el (P := fun y0 => P y0) (fun y1 y2 y3 y4 h1 => ?_) h0
  refine p_Tup_el (P := fun y1 => P (.For y1 y2 y3 [] y4)) (fun y5 y6 y7 h2 => ?_) h1
  exact g y5 y6 y7 y2 y3 y4 h2
theorem sh42 {k : Str → Pos → Str → Pos → List Expr → Pos → List Stmt → Pos → Bool} {P : Stmt → Prop} {y0 : Stmt} (g : ∀ (y5 : Str) (y6 : Pos) (y7 : Str) (y8 : Pos) (y9 : List Expr) (y10 : Pos) (y3 : List Stmt) (y4 : Pos), k y5 y6 y7 y8 y9 y10 y3 y4 = true → P (.For (.Name y5 y6) (.Call (.Name y7 y8) y9 [] y10) y3 [] y4)) (h0 : (p_For y0 fun y1 y2 y3 y4 => p_Name y1 fun y5 y6 => p_CallN y2 fun y7 y8 y9 y10 => (k y5 y6 y7 y8 y9 y10 y3 y4)) = true) : P y0 := by
  refine p_For_el (P := fun y0 => P y0) (fun y1 y2 y3 y4 h1 => ?_) h0
  refine p_Name_el (P := fun y1 => P (.For y1 y2 y3 [] y4)) (fun y5 y6 h2 => ?_) h1
  refine p_CallN_el (P := fun y2 => P (.For (.Name y5 y6) y2 y3 [] y4)) (fun y7 y8 y9 y10 h3 => ?_) h2
  exact g y5 y6 y7 y8 y9 y10 y3 y4 h3
theorem sh43 {k : List Expr → Nat → Pos → Str → Pos → Expr → Pos → List Stmt → Pos → Bool} {P : Stmt → Prop} {y0 : Stmt} (g : ∀ (y5 : List Expr) (y6 : Nat) (y7 : Pos) (y8 : Str) (y9 : Pos) (y12 : Expr) (y11 : Pos) (y3 : List Stmt) (y4 : Pos), k y5 y6 y7 y8 y9 y12 y11 y3 y4 = true → P (.For (.Tuple y5 y6 y7) (.Call (.Name y8 y9) [y12] [] y11) y3 [] y4)) (h0 : (p_For y0 fun y1 y2 y3 y4 => p_Tup y1 fun y5 y6 y7 => p_CallN y2 fun y8 y9 y10 y11 => g1 y10 fun y12 => (k y5 y6 y7 y8 y9 y12 y11 y3 y4)) = true) : P y0 := by
  refine p_For_el (P := fun y0 => P y0) (fun y1 y2 y3 y4 h1 => ?_) h0
  refine p_Tup_el (P := fun y1 => P (.For y1 y2 y3 [] y4)) (fun y5 y6 y7 h2 => ?_) h1
  refine p_CallN_el (P := fun y2 => P (.For (.Tuple y5 y6 y7) y2 y3 [] y4)) (fun y8 y9 y10 y11 h3 => ?_) h2
  refine g1_el (P := fun y10 => P (.For (.Tuple y5 y6 y7) (.Call (.Name y8 y9) y10 [] y11) y3 [] y4)) (fun y12 h4 => ?_) h3
  exact g y5 y6 y7 y8 y9 y12 y11 y3 y4 h4
theorem sh44 {k : Expr → Pos → Bool} {P : Stmt → Prop} {y0 : Stmt} (g : ∀ (y1 : Expr) (y2 : Pos), k y1 y2 = true → P (.Return (some y1) y2)) (h0 : (p_Ret y0 fun y1 y2 => (k y1 y2)) = true) : P y0 := by
  refine p_Ret_el (P := fun y0 => P y0) (fun y1 y2 h1 => ?_) h0
  exact g y1 y2 h1
theorem sh45 {k : Pos → Bool} {P : Stmt → Prop} {y0 : Stmt} (g : ∀ (y1 : Pos), k y1 = true → P (.Break y1)) (h0 : (p_Brk y0 fun y1 => (k y1)) = true) : P y0 := by
  refine p_Brk_el (P := fun y0 => P y0) (fun y1 h1 => ?_) h0
  exact g y1 h1
theorem sh46 {k : Pos → Bool} {P : Stmt → Prop} {y0 : Stmt} (g : ∀ (y1 : Pos), k y1 = true → P (.Continue y1)) (h0 : (p_Cnt y0 fun y1 => (k y1)) = true) : P y0 := by
  refine p_Cnt_el (P := fun y0 => P y0) (fun y1 h1 => ?_) h0
  exact g y1 h1
theorem sh47 {k : List Stmt → List ExceptHandler → Pos → Bool} {P : Stmt → Prop} {y0 : Stmt} (g : ∀ (y1 : List Stmt) (y2 : List ExceptHandler) (y3 : Pos), k y1 y2 y3 = true → P (.Try y1 y2 [] [] y3)) (h0 : (p_Try y0 fun y1 y2 y3 => (k y1 y2 y3)) = true) : P y0 := by
  refine p_Try_el (P := fun y0 => P y0) (fun y1 y2 y3 h1 => ?_) h0
  exact g y1 y2 y3 h1
theorem invX_var {sc : Scope} {v : _} {P : Expr → Prop} {e : Expr} (g : ∀ id z1, (id == Str.ofString v && seesB sc id && !(id == Str.ofString "__debug__")) = true → P (.Name id z1)) : chX sc (.var v) e = true → P e := sh0 g
theorem invX_int {sc : Scope} {n : _} {P : Expr → Prop} {e : Expr} (g : ∀ i z1 z2, (i == n) = true → P (.Constant (.int i) z1 z2)) : chX sc (.int n) e = true → P e := sh1 g
theorem invX_str {sc : Scope} {s : _} {P : Expr → Prop} {e : Expr} (g : ∀ x z1 z2, (x == Str.ofString s && decide (x.length ≤ sizeLine)) = true → P (.Constant (.str x) z1 z2)) : chX sc (.str s) e = true → P e := sh2 g
theorem invX_bool {sc : Scope} {b : _} {P : Expr → Prop} {e : Expr} (g : ∀ c z1 z2, (b == c) = true → P (.Constant (.bool c) z1 z2)) : chX sc (.bool b) e = true → P e := sh3 g
theorem invX_bin {sc : Scope} {o : _} {a : _} {b : _} {P : Expr → Prop} {e : Expr} (g : ∀ l op r z1, (opB o op && chX sc a l && chX sc b r) = true → P (.BinOp l op r z1)) : chX sc (.bin o a b) e = true → P e := sh4 g
theorem invX_neg {sc : Scope} {a : _} {P : Expr → Prop} {e : Expr} (g : ∀ x z1, (chX sc a x) = true → P (.UnaryOp .USub x z1)) : chX sc (.neg a) e = true → P e := sh5 g
theorem invX_cmp {sc : Scope} {o : _} {a : _} {b : _} {P : Expr → Prop} {e : Expr} (g : ∀ l op r z1, (cmB o op && chX sc a l && chX sc b r && notSet r) = true → P (.Compare l [op] [r] z1)) : chX sc (.cmp o a b) e = true → P e := sh6 g
theorem invX_bop {sc : Scope} {k : _} {xs : _} {P : Expr → Prop} {e : Expr} (g : ∀ op vs z1, (boB k op && chXs sc xs vs) = true → P (.BoolOp op vs z1)) : chX sc (.bop k xs) e = true → P e := sh7 g
theorem invX_not {sc : Scope} {a : _} {P : Expr → Prop} {e : Expr} (g : ∀ x z1, (chX sc a x) = true → P (.UnaryOp .Not x z1)) : chX sc (.not a) e = true → P e := sh8 g
theorem invX_ite {sc : Scope} {t : _} {a : _} {b : _} {P : Expr → Prop} {e : Expr} (g : ∀ t' a' b' z1, (chX sc t t' && chX sc a a' && chX sc b b') = true → P (.IfExp t' a' b' z1)) : chX sc (.ite t a b) e = true → P e := sh9 g
theorem invX_list {sc : Scope} {xs : _} {P : Expr → Prop} {e : Expr} (g : ∀ es z1, (chXs sc xs es && decide (es.length < 100)) = true → P (.List es z1)) : chX sc (.list xs) e = true → P e := sh10 g
theorem invX_tup {sc : Scope} {xs : _} {P : Expr → Prop} {e : Expr} (g : ∀ es z1 z2, (chXs sc xs es && decide (es.length < 100)) = true → P (.Tuple es z1 z2)) : chX sc (.tup xs) e = true → P e := sh11 g
theorem invX_idx {sc : Scope} {a : _} {b : _} {P : Expr → Prop} {e : Expr} (g : ∀ v s z1, (chX sc a v && chX sc b s) = true → P (.Subscript v s z1)) : chX sc (.idx a b) e = true → P e := sh12 g
theorem invX_slc {sc : Scope} {a : _} {lo : _} {hi : _} {P : Expr → Prop} {e : Expr} (g : ∀ v l u z3 z2, (chX sc a v && (match l with | none => (match lo with | .nil => true | _ => false) | some l' => chX sc lo l') && (match u with | none => (match hi with | .nil => true | _ => false) | some u' => chX sc hi u')) = true → P (.Subscript v (.Slice l u none z3) z2)) : chX sc (.slc a lo hi) e = true → P e := sh13 g
theorem invX_comp {sc : Scope} {elt : _} {v : _} {src : _} {cond : _} {P : Expr → Prop} {e : Expr} (g : ∀ el x z1 it ifs cs z2, (x == Str.ofString v && compB sc cs x && chX sc src it && notSet it && chX (relabelS cs sc) elt el && (match ifs with | [] => (match cond with | .nil => true | _ => false) | [i] => chX (relabelS cs sc) cond i | _ => false)) = true → P (.ListComp el [⟨(.Name x z1), it, ifs, 0⟩] cs z2)) : chX sc (.comp elt v src cond) e = true → P e := sh14 g
theorem invX_compR {sc : Scope} {elt : _} {v : _} {n : Nat} {P : Expr → Prop} {e : Expr} (g : ∀ el x z1 rg z5 k z9 z10 z7 cs z4, (x == Str.ofString v && compB sc cs x && rg == Str.ofString "range" && globB sc rg && k == (n : Int) && decide (n < 64) && chX (relabelS cs sc) elt el) = true → P (.ListComp el [⟨(.Name x z1), (.Call (.Name rg z5) [(.Constant (.int k) z9 z10)] [] z7), [], 0⟩] cs z4)) : chX sc (.compR elt v n) e = true → P e := sh15 g
theorem invX_call {sc : Scope} {f : _} {xs : _} {P : Expr → Prop} {e : Expr} (g : ∀ id z1 args z2, (id == Str.ofString f && globB sc id && !(id == Str.ofString "__debug__") && !args.isEmpty && chXs sc xs args) = true → P (.Call (.Name id z1) args [] z2)) : chX sc (.call f xs) e = true → P e := sh16 g
theorem invX_bi {sc : Scope} {f : _} {xs : _} {P : Expr → Prop} {e : Expr} (g : ∀ id z1 args z2, (id == Str.ofString f && globB sc id && biNames.contains f && !args.isEmpty && chXs sc xs args) = true → P (.Call (.Name id z1) args [] z2)) : chX sc (.bi f xs) e = true → P e := sh16 g
theorem invX_meth {sc : Scope} {m : _} {o : _} {xs : _} {P : Expr → Prop} {e : Expr} (g : ∀ o' name apos args pos, (name == Str.ofString m && apos.endLine == pos.line && notSuper o' && chX sc o o' && !args.isEmpty && decide (args.length < 20) && chXs sc xs args) = true → P (.Call (.Attribute o' name apos) args [] pos)) : chX sc (.meth m o xs) e = true → P e := sh17 g
theorem invX_isBytes {sc : Scope} {a : _} {P : Expr → Prop} {e : Expr} (g : ∀ id z1 x b z5 z3, (id == Str.ofString "isinstance" && globB sc id && b == Str.ofString "bytes" && globB sc b && chX sc a x) = true → P (.Call (.Name id z1) [x, (.Name b z5)] [] z3)) : chX sc (.isBytes a) e = true → P e := sh18 g
theorem invX_mapF {sc : Scope} {a : _} {P : Expr → Prop} {e : Expr} (g : ∀ t z1 m z5 f z9 x z7 z3, (t == Str.ofString "tuple" && globB sc t && m == Str.ofString "map" && globB sc m && f == Str.ofString "fspath" && globB sc f && chX sc a x) = true → P (.Call (.Name t z1) [(.Call (.Name m z5) [(.Name f z9), x] [] z7)] [] z3)) : chX sc (.mapF a) e = true → P e := sh19 g
theorem invX_cmpK {sc : Scope} {k : _} {l : _} {r : _} {P : Expr → Prop} {e : Expr} (g : ∀ c z3 k' z5 nm apos l' r' pos, (c == Str.ofString "TupleComp" && globB sc c && nm == Str.ofString "compare" && apos.endLine == pos.line && chX sc k k' && chX sc l l' && chX sc r r') = true → P (.Call (.Attribute (.Call (.Name c z3) [k'] [] z5) nm apos) [l', r'] [] pos)) : chX sc (.cmpK k l r) e = true → P e := sh20 g
theorem invX_cmpV {sc : Scope} {v : _} {l : _} {r : _} {P : Expr → Prop} {e : Expr} (g : ∀ id z3 nm apos l' r' pos, (id == Str.ofString v && seesB sc id && !(id == Str.ofString "__debug__") && nm == Str.ofString "compare" && apos.endLine == pos.line && chX sc l l' && chX sc r r') = true → P (.Call (.Attribute (.Name id z3) nm apos) [l', r'] [] pos)) : chX sc (.cmpV v l r) e = true → P e := sh21 g
theorem invX_keysOf {sc : Scope} {v : _} {P : Expr → Prop} {e : Expr} (g : ∀ id z3 nm z2, (id == Str.ofString v && seesB sc id && !(id == Str.ofString "__debug__") && nm == Str.ofString "comp_select_list") = true → P (.Attribute (.Name id z3) nm z2)) : chX sc (.keysOf v) e = true → P e := sh22 g
theorem invX_ownLast {sc : Scope} {v : _} {P : Expr → Prop} {e : Expr} (g : ∀ id z4 z8 z9 z6 z3, (id == Str.ofString v && seesB sc id && !(id == Str.ofString "__debug__")) = true → P (.Subscript (.Name id z4) (.UnaryOp .USub (.Constant (.int 1) z8 z9) z6) z3)) : chX sc (.ownLast v) e = true → P e := sh23 g
theorem invX_ownLen {sc : Scope} {v : _} {P : Expr → Prop} {e : Expr} (g : ∀ l z1 id z5 z3, (l == Str.ofString "len" && globB sc l && id == Str.ofString v && seesB sc id && !(id == Str.ofString "__debug__")) = true → P (.Call (.Name l z1) [(.Name id z5)] [] z3)) : chX sc (.ownLen v) e = true → P e := sh24 g
theorem invX_ownNotIn {sc : Scope} {a : _} {v : _} {P : Expr → Prop} {e : Expr} (g : ∀ l id z4 z3, (chX sc a l && id == Str.ofString v && seesB sc id && !(id == Str.ofString "__debug__")) = true → P (.Compare l [.NotIn] [(.Name id z4)] z3)) : chX sc (.ownNotIn a v) e = true → P e := sh25 g
theorem invX_ownSorted {sc : Scope} {v : _} {P : Expr → Prop} {e : Expr} (g : ∀ l z1 id z5 z3, (l == Str.ofString "sorted" && globB sc l && id == Str.ofString v && seesB sc id && !(id == Str.ofString "__debug__")) = true → P (.Call (.Name l z1) [(.Name id z5)] [] z3)) : chX sc (.ownSorted v) e = true → P e := sh24 g
theorem invS_assign {sc : Scope} {v : _} {e : _} {P : Stmt → Prop} {st : Stmt} (g : ∀ t value z1, (nameB sc v t && !isComp value && chX sc e value) = true → P (.Assign [t] value z1)) : chS sc (.assign v e) st = true → P st := sh26 g
theorem invS_assignC {sc : Scope} {v : _} {e : _} {P : Stmt → Prop} {st : Stmt} (g : ∀ id p el gs cs cp z3, (id == Str.ofString v && seesB sc id && sc.names.lookup id == some .local && p.line == cp.line && !(cs.names.any fun (n, k) => n == id && (k == .local || k == .cell)) && chX sc e (.ListComp el gs cs cp)) = true → P (.Assign [(.Name id p)] (.ListComp el gs cs cp) z3)) : chS sc (.assignC v e) st = true → P st := sh27 g
theorem invS_setTrue {sc : Scope} {v : _} {p : _} {src : _} {sep : _} {P : Stmt → Prop} {st : Stmt} (g : ∀ t z2 z3 p' pp nm apos sp cpos x z7 it cs z8 z5, (nameB sc v t && compB sc cs x && x == Str.ofString p && chX sc src it && notSet it && chX (relabelS cs sc) (.meth "startswith" (.var p) [sep]) (.Call (.Attribute (.Name p' pp) nm apos) [sp] [] cpos)) = true → P (.Assign [(.Tuple [t] z2 z3)] (.SetComp (.Call (.Attribute (.Name p' pp) nm apos) [sp] [] cpos) [⟨(.Name x z7), it, [], 0⟩] cs z8) z5)) : chS sc (.setTrue v p src sep) st = true → P st := sh28 g
theorem invS_unpack {sc : Scope} {vs : _} {e : _} {P : Stmt → Prop} {st : Stmt} (g : ∀ ts z1 z2 value z3, (namesB sc vs ts && !isComp value && chX sc e value && (!isTup value || (ts.length != 2 && ts.length != 3)) && decide (ts.length < 100)) = true → P (.Assign [(.Tuple ts z1 z2)] value z3)) : chS sc (.unpack vs e) st = true → P st := sh29 g
theorem invS_swap {sc : Scope} {vs : _} {es : _} {P : Stmt → Prop} {st : Stmt} (g : ∀ ts z1 z2 es' z5 z6 z4, ((ts.length == 2 || ts.length == 3) && es'.length == ts.length && localsB sc (lineOf ts) vs ts && decide ((vs.map Str.ofString).eraseDups.length = vs.length) && es'.all notStar && !es'.all (foldedForSure 8) && !es'.all (constantsAlone 8) && chXs sc es es') = true → P (.Assign [(.Tuple ts z1 z2)] (.Tuple es' z5 z6) z4)) : chS sc (.swap vs es) st = true → P st := sh30 g
theorem invS_swapOwn {sc : Scope} {v : _} {w : _} {e : _} {P : Stmt → Prop} {st : Stmt} (g : ∀ ts z1 z2 lp e' k tp z4, (localsB sc (lineOf ts) [v, w] ts && decide (([v, w].map Str.ofString).eraseDups.length = 2) && notStar e' && chX sc e e' && !foldedForSure 8 (.List [] lp) && !constantsAlone 8 (.List [] lp)) = true → P (.Assign [(.Tuple ts z1 z2)] (.Tuple [(.List [] lp), e'] k tp) z4)) : chS sc (.swapOwn v w e) st = true → P st := sh31 g
theorem invS_swapComp {sc : Scope} {v : _} {w : _} {k : _} {P : Stmt → Prop} {st : Stmt} (g : ∀ ts z1 z2 lp c z9 k' z11 z7 z8 z4, (localsB sc (lineOf ts) [v, w] ts && decide (([v, w].map Str.ofString).eraseDups.length = 2) && c == Str.ofString "TupleComp" && globB sc c && chX sc k k') = true → P (.Assign [(.Tuple ts z1 z2)] (.Tuple [(.List [] lp), (.Call (.Name c z9) [k'] [] z11)] z7 z8) z4)) : chS sc (.swapComp v w k) st = true → P st := sh32 g
theorem invS_newOwn {sc : Scope} {v : _} {P : Stmt → Prop} {st : Stmt} (g : ∀ t z3 z2, (nameB sc v t) = true → P (.Assign [t] (.List [] z3) z2)) : chS sc (.newOwn v) st = true → P st := sh33 g
theorem invS_freeze {sc : Scope} {w : _} {v : _} {P : Stmt → Prop} {st : Stmt} (g : ∀ t id z3 z2, (nameB sc w t && id == Str.ofString v && seesB sc id && !(id == Str.ofString "__debug__")) = true → P (.Assign [t] (.Name id z3) z2)) : chS sc (.freeze w v) st = true → P st := sh34 g
theorem invS_append {sc : Scope} {v : _} {e : _} {P : Stmt → Prop} {st : Stmt} (g : ∀ id z5 nm apos e' cpos z2, (id == Str.ofString v && seesB sc id && !(id == Str.ofString "__debug__") && nm == Str.ofString "append" && apos.endLine == cpos.line && chX sc e e') = true → P (.Expr (.Call (.Attribute (.Name id z5) nm apos) [e'] [] cpos) z2)) : chS sc (.append v e) st = true → P st := sh35 g
theorem invS_pop {sc : Scope} {v : _} {P : Stmt → Prop} {st : Stmt} (g : ∀ id z5 nm apos cpos z2, (id == Str.ofString v && seesB sc id && !(id == Str.ofString "__debug__") && nm == Str.ofString "pop" && apos.endLine == cpos.line) = true → P (.Expr (.Call (.Attribute (.Name id z5) nm apos) [] [] cpos) z2)) : chS sc (.pop v) st = true → P st := sh36 g
theorem invS_aug {sc : Scope} {v : _} {e : _} {P : Stmt → Prop} {st : Stmt} (g : ∀ t value z1, (nameB sc v t && chX sc e value) = true → P (.AugAssign t .Add value z1)) : chS sc (.aug v e) st = true → P st := sh37 g
theorem invS_ite {sc : Scope} {t : _} {a : _} {b : _} {P : Stmt → Prop} {st : Stmt} (g : ∀ t' a' b' z1, (chX sc t t' && chSs sc a a' && chSs sc b b') = true → P (.If t' a' b' z1)) : chS sc (.ite t a b) st = true → P st := sh38 g
theorem invS_whl {sc : Scope} {t : _} {a : _} {P : Stmt → Prop} {st : Stmt} (g : ∀ t' a' z1, (chX sc t t' && chSs sc a a') = true → P (.While t' a' [] z1)) : chS sc (.whl t a) st = true → P st := sh39 g
theorem invS_for1 {sc : Scope} {v : _} {src : _} {a : _} {P : Stmt → Prop} {st : Stmt} (g : ∀ id p it a' z2, (nameB sc v (.Name id p) && chX sc src it && notSet it && chSs sc a a') = true → P (.For (.Name id p) it a' [] z2)) : chS sc (.for1 v src a) st = true → P st := sh40 g
theorem invS_forT {sc : Scope} {vs : _} {src : _} {a : _} {P : Stmt → Prop} {st : Stmt} (g : ∀ ts z3 z4 it a' z2, (namesB sc vs ts && chX sc src it && notSet it && decide (ts.length < 100) && chSs sc a a') = true → P (.For (.Tuple ts z3 z4) it a' [] z2)) : chS sc (.forT vs src a) st = true → P st := sh41 g
theorem invS_forR {sc : Scope} {v : _} {lo : _} {hi : _} {a : _} {P : Stmt → Prop} {st : Stmt} (g : ∀ id p rg z4 args z5 a' z3, (nameB sc v (.Name id p) && rg == Str.ofString "range" && globB sc rg && (match args with | [h] => (match lo with | .int 0 => true | _ => false) && chX sc hi h | [l, h] => chX sc lo l && chX sc hi h | _ => false) && chSs sc a a') = true → P (.For (.Name id p) (.Call (.Name rg z4) args [] z5) a' [] z3)) : chS sc (.forR v lo hi a) st = true → P st := sh42 g
theorem invS_forE {sc : Scope} {i : _} {v : _} {src : _} {a : _} {P : Stmt → Prop} {st : Stmt} (g : ∀ ts z4 z5 en z6 it z8 a' z3, (namesB sc [i, v] ts && en == Str.ofString "enumerate" && globB sc en && chX sc src it && chSs sc a a') = true → P (.For (.Tuple ts z4 z5) (.Call (.Name en z6) [it] [] z8) a' [] z3)) : chS sc (.forE i v src a) st = true → P st := sh43 g
theorem invS_ret {sc : Scope} {e : _} {P : Stmt → Prop} {st : Stmt} (g : ∀ e' z1, (chX sc e e') = true → P (.Return (some e') z1)) : chS sc (.ret e) st = true → P st := sh44 g
theorem invS_brk {sc : Scope}  {P : Stmt → Prop} {st : Stmt} (g : ∀ z1, (true) = true → P (.Break z1)) : chS sc .brk st = true → P st := sh45 g
theorem invS_cont {sc : Scope}  {P : Stmt → Prop} {st : Stmt} (g : ∀ z1, (true) = true → P (.Continue z1)) : chS sc .cont st = true → P st := sh46 g
theorem invS_try {sc : Scope} {a : _} {P : Stmt → Prop} {st : Stmt} (g : ∀ a' z1 z2, (chSs sc a a') = true → P (.Try a' z1 [] [] z2)) : chS sc (.try_ a) st = true → P st := sh47 g
theorem exX_comp {sc : Scope} {elt : X} {v : String} {src cond : X} {e : Expr} (h : chX sc (.comp elt v src cond) e = true) : ∃ el x px it ifs cs cp, e = .ListComp el [⟨.Name x px, it, ifs, 0⟩] cs cp :=
  invX_comp (P := fun e => ∃ el x px it ifs cs cp, e = .ListComp el [⟨.Name x px, it, ifs, 0⟩] cs cp) (fun el x px it ifs cs cp _ => ⟨el, x, px, it, ifs, cs, cp, rfl⟩) h
theorem exX_compR {sc : Scope} {elt : X} {v : String} {n : Nat} {e : Expr} (h : chX sc (.compR elt v n) e = true) : ∃ el x px rg rp kk kt kp rp2 cs cp, e = .ListComp el [⟨.Name x px, .Call (.Name rg rp) [.Constant (.int kk) kt kp] [] rp2, [], 0⟩] cs cp :=
  invX_compR (P := fun e => ∃ el x px rg rp kk kt kp rp2 cs cp, e = .ListComp el [⟨.Name x px, .Call (.Name rg rp) [.Constant (.int kk) kt kp] [] rp2, [], 0⟩] cs cp) (fun el x px rg rp kk kt kp rp2 cs cp _ => ⟨el, x, px, rg, rp, kk, kt, kp, rp2, cs, cp, rfl⟩) h
theorem bodyX_comp {sc : Scope} {elt : X} {v : String} {src cond : X} {el : Expr} {x : Str} {px : Pos} {it : Expr} {ifs : List Expr} {cs : Scope} {cp : Pos} : chX sc (.comp elt v src cond) (.ListComp el [⟨.Name x px, it, ifs, 0⟩] cs cp) = true → (x == Str.ofString v && compB sc cs x && chX sc src it && notSet it && chX (relabelS cs sc) elt el && (match ifs with | [] => (match cond with | .nil => true | _ => false) | [i] => chX (relabelS cs sc) cond i | _ => false)) = true := fun h => h
theorem chXs_nil (sc : Scope) (es : List Expr) : chXs sc [] es = es.isEmpty := rfl
theorem chXs_cons (sc : Scope) (x : X) (xs : List X) (e : Expr) (es : List Expr) : chXs sc (x :: xs) (e :: es) = (chX sc x e && chXs sc xs es) := rfl
end Mine
end

section
open PySem PySem.W PyProof.Rows

namespace Mine
set_option tactic.hygienic false

/-- room for n calls below -/
structure Room (A : Around) (n : Nat) : Prop where
  handled : A.handled = none
  depth : A.depth + n < 900
  units : A.units + 8 * n + 128 < cLine

structure WdOk (prog : Program) (w : World) (W : Wh) (H : Heap) : Prop where
  g : H.Ns W.G W.mg
  b : H.Ns W.B W.mb
  lim : H.NoLimit
  bis : ∀ f ∈ biNames, W.mg (Str.ofString f) = none ∧ W.mb (Str.ofString f) = some (biV f)
  range : W.mg (Str.ofString "range") = none ∧ W.mb (Str.ofString "range") = some (.type "range")
  sorted : W.mg (Str.ofString "sorted") = none ∧ W.mb (Str.ofString "sorted") = some (.builtin "sorted")
  enum : W.mg (Str.ofString "enumerate") = none ∧ W.mb (Str.ofString "enumerate") = some (.type "enumerate")
  map : W.mg (Str.ofString "map") = none ∧ W.mb (Str.ofString "map") = some (.type "map")
  isi : W.mg (Str.ofString "isinstance") = none ∧ W.mb (Str.ofString "isinstance") = some (.builtin "isinstance")
  bytes : W.mg (Str.ofString "bytes") = none ∧ W.mb (Str.ofString "bytes") = some (.type "bytes")

/-- a call of a def of the text, as the evaluator tells it -/
noncomputable def CallOk (prog : Program) (w : World) (W : Wh) (H : Heap) (C : String → List PyData → Option PyData) (n : Nat) : Prop := ∀ f ds d, C f ds = some d →
  ∃ a o fd, W.mg (Str.ofString f) = some (.ref a) ∧ H.get? a = some o ∧ o.data = .func fd ∧
    ∀ (A : Around) (s : Shared) (vs : List Value) (ex : List Addr) (Q E : Value → Shared → Prop), Room A n → Grow H s.heap → Old s ex → RepAll s.heap ex vs ds → Post s ex d Q → wpAny (model prog w) A (call (.ref a) vs) Q E s

/-- the comparer -/
structure CmpOk (prog : Program) (w : World) (W : Wh) (H : Heap) (K : PyData → PyData → PyData → Option PyData) (n : Nat) : Prop where
  cls : W.mg (Str.ofString "TupleComp") = some (.ref W.cc)
  with_ : ∀ (A : Around) (s : Shared) (env : Env) (pos : Pos) (e : Expr) (Q E : Value → Shared → Prop), starEach [e] env = [(false, eval e env)] →
    wpAny (model prog w) A (eval e env) (fun v s₁ => Grow H s₁.heap ∧ wpAny (model prog w) A (call (.ref W.cc) [v]) Q E s₁) E s →
    wpAny (model prog w) A (callWith pos (.ref W.cc) [] (backTo pos (starEach [e] env)) []) Q E s
  make : ∀ (A : Around) (s : Shared) (v : Value) (k : PyData) (ex : List Addr) (L : Addr) (Q E : Value → Shared → Prop), Room A n → Grow H s.heap → Old s ex → Rep s.heap ex v k → (∃ o, s.heap.get? L = some o) →
    (∀ h' tk b, Grow s.heap h' → CmpAt W.cc h' ex L b k → Q (.ref b) { s with heap := h', toks := tk }) → wpAny (model prog w) A (call (.ref W.cc) [v]) Q E s
  attr : ∀ (A : Around) (s : Shared) (b : Addr) (k : PyData) (ex : List Addr) (L : Addr) (x : Bool) (Q E : Value → Shared → Prop), Grow H s.heap → CmpAt W.cc s.heap ex L b k →
    (∀ v tk, Rep s.heap ex v k → Q v { s with toks := tk }) → wpAny (model prog w) A (getAttr (.ref b) (Str.ofString "comp_select_list") x) Q E s
  meth : ∃ f o fd, H.get? f = some o ∧ o.data = .func fd ∧
    (∀ (A : Around) (s : Shared) (b : Addr) (k : PyData) (ex : List Addr) (L : Addr) (pl : Sem Bool) (Q : Value × List Value → Shared → Prop) (E : Value → Shared → Prop), Grow H s.heap → CmpAt W.cc s.heap ex L b k →
      Q (.ref f, [.ref b]) s → wpAny (model prog w) A (getMethod (.ref b) (Str.ofString "compare") pl) Q E s) ∧
    (∀ (A : Around) (s : Shared) (b : Addr) (k l r d : PyData) (vl vr : Value) (ex : List Addr) (L : Addr) (Q E : Value → Shared → Prop), K k l r = some d → Room A n → Grow H s.heap → Old s ex → CmpAt W.cc s.heap ex L b k →
      Rep s.heap ex vl l → Rep s.heap ex vr r → Post s ex d Q → wpAny (model prog w) A (call (.ref f) [.ref b, vl, vr]) Q E s)

/-- what fspath by map gives -/
noncomputable def MapOk (prog : Program) (w : World) (W : Wh) (H : Heap) (n : Nat) : Prop := ∃ a, W.mg (Str.ofString "fspath") = some (.ref a) ∧
  ∀ (A : Around) (s : Shared) (v : Value) (x : PyData) (ds : List PyData) (ss : List Str) (ex : List Addr) (Q E : Value → Shared → Prop), Room A n → Grow H s.heap → Old s ex → Rep s.heap ex v x → itemsD x = some ds → strsOf ds = some ss →
    Post s ex (.tuple ds) Q → wpAny (model prog w) A (call (.type "map") [.ref a, v]) (fun m s₁ => wpAny (model prog w) A (call (.type "tuple") [m]) Q E s₁) E s

theorem Post.from {s : Shared} {ex : List Addr} {d : PyData} {Q : Value → Shared → Prop} (hQ : Post s ex d Q) {h₁ : Heap} {tk : Nat} (g : Grow s.heap h₁) : Post { s with heap := h₁, toks := tk } ex d Q :=
  fun v h' tk' g' r => hQ v h' tk' (g.trans g') r
theorem Old.up {s : Shared} {ex : List Addr} (ho : Old s ex) {h₁ : Heap} {tk : Nat} (g : Grow s.heap h₁) : Old { s with heap := h₁, toks := tk } ex := fun a m => let ⟨o, e⟩ := ho a m; ⟨o, g _ _ e⟩

section
variable (prog : Program) (w : World) (W : Wh) (H : Heap) (C : String → List PyData → Option PyData) (K : PyData → PyData → PyData → Option PyData) (n : Nat)

/-- the surroundings of a step -/
structure Ctxt (A : Around) (env : Env) (ex own : List Addr) (ρ : Ro) (s : Shared) : Prop where
  room : Room A n
  eo : EnvOk W env
  st : StE W H env ex own ρ s.heap
  old : Old s (own ++ ex)

theorem Ctxt.up {A : Around} {env : Env} {ex own : List Addr} {ρ : Ro} {s : Shared} (c : Ctxt W H n A env ex own ρ s) {h' : Heap} {tk : Nat} (g : Grow s.heap h') : Ctxt W H n A env ex own ρ { s with heap := h', toks := tk } :=
  ⟨c.room, c.eo, c.st.up g, c.old.up g⟩

noncomputable def XE (x : X) : Prop := ∀ (A : Around) (env : Env) (ex own : List Addr) (ρ : Ro) (s : Shared) (e : Expr) (d : PyData) (Q E : Value → Shared → Prop), Ctxt W H n A env ex own ρ s →
  chX env.scope x e = true → evX C K ρ x = some d → Post s (own ++ ex) d Q → wpAny (model prog w) A (eval e env) Q E s
noncomputable def XT (x : X) : Prop := ∀ (A : Around) (env : Env) (ex own : List Addr) (ρ : Ro) (s : Shared) (e : Expr) (b : Bool) (Q : Bool → Shared → Prop) (E : Value → Shared → Prop), Ctxt W H n A env ex own ρ s →
  chX env.scope x e = true → evT C K ρ x (evX C K ρ x) = some b → (∀ h' tk, Grow s.heap h' → Q b { s with heap := h', toks := tk }) → wpAny (model prog w) A (isTrue e env (eval e env)) Q E s
end

theorem chX_star {sc : Scope} {x : X} {e : Expr} (h : chX sc x e = true) : ∀ y p, e ≠ .Starred y p := by
  rintro y p rfl
  cases x <;> exact absurd h Bool.false_ne_true
theorem star_cons {e : Expr} {rest : List Expr} {env : Env} (h : ∀ y p, e ≠ .Starred y p) : starEach (e :: rest) env = (false, eval e env) :: starEach rest env := by
  cases e <;> first | rfl | exact absurd rfl (h _ _)
theorem noStar {sc : Scope} {xs : List X} {es : List Expr} {env : Env} (pos : Pos) (h : chXs sc xs es = true) : (backTo pos (starEach es env)).any (·.1) = false := by
  induction xs generalizing es with
  | nil =>
    simp [chXs_nil, chXs_cn] at h; subst h; rfl
  | cons x xs ih =>
    cases es with
    | nil => simp [chXs_nil, chXs_cn] at h
    | cons e es =>
      simp only [chXs_cons, Bool.and_eq_true] at h
      rw [star_cons (chX_star h.1)]
      show (false || (backTo pos (starEach es env)).any (·.1)) = false
      rw [ih h.2]; rfl
theorem chXs_len {sc : Scope} {xs : List X} {es : List Expr} (h : chXs sc xs es = true) : xs.length = es.length := by
  induction xs generalizing es with
  | nil => simp [chXs_nil, chXs_cn] at h; subst h; rfl
  | cons x xs ih =>
    cases es with
    | nil => simp [chXs_nil, chXs_cn] at h
    | cons e es =>
      simp only [chXs_cons, Bool.and_eq_true] at h
      rw [List.length_cons, List.length_cons, ih h.2]

section
variable {prog : Program} {w : World} {W : Wh} {H : Heap} {C : String → List PyData → Option PyData} {K : PyData → PyData → PyData → Option PyData} {n : Nat}

/-- a list of arguments -/
theorem args_ok : ∀ {xs : List X} {es : List Expr} {pos : Pos} {A : Around} {env : Env} {ex own : List Addr} {ρ : Ro} {s : Shared} {ds : List PyData} {Q : List Value → Shared → Prop} {E : Value → Shared → Prop}
    (_ : ∀ x ∈ xs, XE prog w W H C K n x) (_ : Ctxt W H n A env ex own ρ s) (_ : chXs env.scope xs es = true) (_ : evXs C K ρ xs = some ds)
    (_ : ∀ vs h' tk, Grow s.heap h' → RepAll h' (own ++ ex) vs ds → Q vs { s with heap := h', toks := tk }), wpAny (model prog w) A (spliced (backTo pos (starEach es env))) Q E s
  | [], es, pos, A, env, ex, own, ρ, s, ds, Q, E, _, _, hc, hv, hQ => by
    simp [chXs_nil, chXs_cn] at hc; subst hc
    simp [evXs_nil] at hv; subst hv
    exact args_nil (hQ [] s.heap s.toks (Grow.refl _) .nil)
  | x :: xs, es, pos, A, env, ex, own, ρ, s, ds, Q, E, hx, c, hc, hv, hQ => by
    cases es with
    | nil => exact absurd hc Bool.false_ne_true
    | cons e es =>
      simp only [chXs_cons, Bool.and_eq_true] at hc
      simp only [evXs_cons] at hv
      first | refine opND hv fun d hd hv => ?_ | refine opNL hv fun d hd hv => ?_
      · skip
        first | refine opND hv fun ds' hds hv => ?_ | refine opNL hv fun ds' hds hv => ?_
        · skip
          cases hv
          refine args_cons (hx x (.head _) A env ex own ρ s e d _ _ c hc.1 hd fun v h' tk g r => ?_) (star_cons (chX_star hc.1))
          refine args_ok (fun y hy => hx y (.tail _ hy)) (c.up W H n g) hc.2 hds fun vs h'' tk' g' rs => ?_
          exact hQ (v :: vs) h'' tk' (g.trans g') (.cons (r.grow g') rs)

theorem bool_eq {a b : Bool} (h : (a == b) = true) : a = b := by simpa using h
theorem str_eq {a b : Str} (h : (a == b) = true) : a = b := by simpa using h

theorem c_nil : XE prog w W H C K n .nil := fun A env ex own ρ s e d Q E c hc hv hQ => absurd hc Bool.false_ne_true
theorem c_int (i : Int) : XE prog w W H C K n (.int i) := fun A env ex own ρ s e d Q E c hc hv hQ => by
  refine invX_int (P := fun e => wpAny (model prog w) A (eval e env) Q E s) (fun q1 q2 q3 hc => ?_) hc
  · simp only [beq_iff_eq] at hc; subst hc
    dsimp only [evX_int] at hv; cases hv
    exact wpAny_Constant_int (hQ.atom (.int _ _))
theorem c_str (t : String) : XE prog w W H C K n (.str t) := fun A env ex own ρ s e d Q E c hc hv hQ => by
  refine invX_str (P := fun e => wpAny (model prog w) A (eval e env) Q E s) (fun q1 q2 q3 hc => ?_) hc
  · simp only [Bool.and_eq_true, beq_iff_eq, decide_eq_true_eq] at hc
    obtain ⟨rfl, hl⟩ := hc
    dsimp only [evX_str] at hv; cases hv
    exact Calls.Constant_str (hQ.atom (.str _ _ hl))
theorem c_bool (b : Bool) : XE prog w W H C K n (.bool b) := fun A env ex own ρ s e d Q E c hc hv hQ => by
  refine invX_bool (P := fun e => wpAny (model prog w) A (eval e env) Q E s) (fun q1 q2 q3 hc => ?_) hc
  · have := bool_eq hc; subst this
    dsimp only [evX_bool] at hv; cases hv
    exact fun _ _ _ => hQ.here (.bool _)

theorem opB_of {o : Op2} {p : Operator} (h : opB o p = true) : p = opOf o := by cases o <;> cases p <;> first | rfl | exact absurd h Bool.false_ne_true
theorem cmB_of {o : Cm} {p : CmpOp} (h : cmB o p = true) : p = cmOf o := by cases o <;> cases p <;> first | rfl | exact absurd h Bool.false_ne_true

set_option tactic.hygienic true in
theorem c_var (v : String) : XE prog w W H C K n (.var v) := fun A env ex own ρ s e d Q E c hc hv hQ => by
  refine invX_var (P := fun e => wpAny (model prog w) A (eval e env) Q E s) (fun q1 q2 hc => ?_) hc
  · simp only [Bool.and_eq_true, beq_iff_eq] at hc
    obtain ⟨⟨rfl, hs⟩, hd⟩ := hc
    dsimp only [evX_var] at hv
    first | refine oV hv fun d' hr hv => ?_ | refine oC hv fun d' hr hv => ?_ | refine oO hv fun d' hr hv => ?_ | refine oI hv fun d' hr hv => ?_ | refine oT hv fun d' hr hv => ?_ | refine opS2D hv fun d' hr hv => ?_ | refine opS2L hv fun d' hr hv => ?_ | refine opS2B hv fun d' hr hv => ?_ | refine opS2S hv fun d' hr hv => ?_
    · skip
      cases hv
      have hseen : seen env v := ⟨fun e => sees_ne hs (congrArg Str.ofString e), sees_of hs⟩
      obtain ⟨σ, N⟩ := c.st.names
      have hv' := N.2.2 v hseen
      rw [hr] at hv'
      obtain ⟨u, hu, ru⟩ := hv'
      exact wpAny_Name (N.get c.eo.kind hseen hu (hQ.here ru)) (by simpa using hd)

theorem c_bin (o : Op2) {a b : X} (ha : XE prog w W H C K n a) (hb : XE prog w W H C K n b) : XE prog w W H C K n (.bin o a b) := fun A env ex own ρ s e d Q E c hc hv hQ => by
  refine invX_bin (P := fun e => wpAny (model prog w) A (eval e env) Q E s) (fun q1 q2 q3 q4 hc => ?_) hc
  · refine and3 (fun h1 h2 h3 => ?_) hc
    have := opB_of h1; subst this
    dsimp only [evX_bin] at hv
    first | refine opND hv fun x hx hv => ?_ | refine opNL hv fun x hx hv => ?_
    · skip
      first | refine opND hv fun y hy hv => ?_ | refine opNL hv fun y hy hv => ?_
      · skip
        refine wpAny_BinOp (ha A env ex own ρ s _ x _ _ c h2 hx fun u h' tk g ru => ?_)
        refine hb A env ex own ρ _ _ y _ _ (c.up W H n g) h3 hy fun v h'' tk' g' rv => ?_
        exact bin_ok (c.up W H n (g.trans g')).old (ru.grow g') rv hv (hQ.from (g.trans g'))

set_option tactic.hygienic true in
theorem c_neg {a : X} (ha : XE prog w W H C K n a) : XE prog w W H C K n (.neg a) := fun A env ex own ρ s e d Q E c hc hv hQ => by
  refine invX_neg (P := fun e => wpAny (model prog w) A (eval e env) Q E s) (fun q1 q2 hc => ?_) hc
  · dsimp only [evX_neg] at hv
    first | refine oV hv fun k hk hv => ?_ | refine oC hv fun k hk hv => ?_ | refine oO hv fun k hk hv => ?_ | refine oI hv fun k hk hv => ?_ | refine oT hv fun k hk hv => ?_ | refine opS2D hv fun k hk hv => ?_ | refine opS2L hv fun k hk hv => ?_ | refine opS2B hv fun k hk hv => ?_ | refine opS2S hv fun k hk hv => ?_
    · skip
      cases hv
      refine wpAny_UnaryOp (ha A env ex own ρ s _ _ _ _ c hc hk fun u h' tk g ru => ?_)
      exact neg_ok ru (hQ.from g)

theorem Room.u {A : Around} (r : Room A n) : A.units + 64 < cLine := by have := r.units; lia

theorem c_cmp (o : Cm) {a b : X} (ha : XE prog w W H C K n a) (hb : XE prog w W H C K n b) : XE prog w W H C K n (.cmp o a b) := fun A env ex own ρ s e d Q E c hc hv hQ => by
  refine invX_cmp (P := fun e => wpAny (model prog w) A (eval e env) Q E s) (fun q1 q2 q3 q4 hc => ?_) hc
  · refine and4 (fun h1 h2 h3 h4 => ?_) hc
    have := cmB_of h1; subst this
    dsimp only [evX_cmp] at hv
    first | refine opND hv fun x hx hv => ?_ | refine opNL hv fun x hx hv => ?_
    · skip
      first | refine opND hv fun y hy hv => ?_ | refine opNL hv fun y hy hv => ?_
      · skip
        refine wpAny_Compare1 (ha A env ex own ρ s _ x _ _ c h2 hx fun u h' tk g ru => ?_) (by cases q3 <;> first | rfl | cases h4)
        refine hb A env ex own ρ _ _ y _ _ (c.up W H n g) h3 hy fun v h'' tk' g' rv => ?_
        exact cmp_ok (ru.grow g') rv hv c.room.u (hQ.from (g.trans g'))

set_option tactic.hygienic true in
theorem evXs_len : ∀ {xs : List X} {ρ : Ro} {ds : List PyData}, evXs C K ρ xs = some ds → ds.length = xs.length
  | [], _, _, h => by simp [evXs_nil] at h; subst h; rfl
  | x :: xs, _, _, h => by
    simp only [evXs_cons] at h
    split at h
    · exact nos h
    · split at h
      · exact nos h
      · rename_i hds
        cases h
        rw [List.length_cons, List.length_cons, evXs_len hds]

theorem c_list {xs : List X} (hx : ∀ x ∈ xs, XE prog w W H C K n x) : XE prog w W H C K n (.list xs) := fun A env ex own ρ s e d Q E c hc hv hQ => by
  refine invX_list (P := fun e => wpAny (model prog w) A (eval e env) Q E s) (fun q1 q2 hc => ?_) hc
  · simp only [Bool.and_eq_true, decide_eq_true_eq] at hc
    dsimp only [evX_list] at hv
    first | refine opSD hv fun ds hds hv => ?_ | refine opSL hv fun ds hds hv => ?_
    · skip
      cases hv
      refine List_ (args_ok hx c hc.1 hds fun vs h' tk g rs => ?_)
      have hl : ds.length < 100 := by rw [evXs_len hds, chXs_len hc.1]; exact hc.2
      have hl2 : vs.length ≤ sizeLine := by rw [sizeLine_eq, rs.length]; lia
      exact wpAny_newObj_type (Post.newList (hQ.from g) (c.old.up g) rs (by rw [sizeLine_eq]; lia)) (by show vs.toArray.size ≤ sizeLine; simpa using hl2)
theorem c_tup {xs : List X} (hx : ∀ x ∈ xs, XE prog w W H C K n x) : XE prog w W H C K n (.tup xs) := fun A env ex own ρ s e d Q E c hc hv hQ => by
  refine invX_tup (P := fun e => wpAny (model prog w) A (eval e env) Q E s) (fun q1 q2 q3 hc => ?_) hc
  · simp only [Bool.and_eq_true, decide_eq_true_eq] at hc
    dsimp only [evX_tup] at hv
    first | refine opSD hv fun ds hds hv => ?_ | refine opSL hv fun ds hds hv => ?_
    · skip
      cases hv
      refine Tuple_ (args_ok hx c hc.1 hds fun vs h' tk g rs => ?_)
      have hl : ds.length < 100 := by rw [evXs_len hds, chXs_len hc.1]; exact hc.2
      have hl2 : vs.length ≤ sizeLine := by rw [sizeLine_eq, rs.length]; lia
      exact wpAny_newObj_type (Post.newTuple (hQ.from g) (c.old.up g) rs (by rw [sizeLine_eq]; lia)) (by show vs.toArray.size ≤ sizeLine; simpa using hl2)
end
end Mine
end

section
open PySem PySem.W PyProof.Rows

namespace Mine
set_option tactic.hygienic false
section
variable {prog : Program} {w : World} {W : Wh} {H : Heap} {C : String → List PyData → Option PyData} {K : PyData → PyData → PyData → Option PyData} {n : Nat}

set_option tactic.hygienic true in
theorem seen_of {env : Env} {v : String} (hs : seesB env.scope (Str.ofString v) = true) : seen env v := by
  exact ⟨fun e => sees_ne hs (congrArg Str.ofString e), sees_of hs⟩

set_option tactic.hygienic true in
theorem subscripted_ok {slice : Expr} {o i : Value} {A : Around} {s : Shared} {Q E : Value → Shared → Prop} (q : wpAny (model prog w) A (getItem o i) Q E s) : wpAny (model prog w) A (subscripted slice false o i) Q E s := by
  cases slice <;> first | exact wpAny_operating q | skip
  rename_i a b c p
  cases c <;> exact wpAny_operating q

set_option tactic.hygienic true in
/-- the tail of a subscript -/
theorem sub_tail {value slice : Expr} {o i : Value} {A : Around} {s : Shared} {Q E : Value → Shared → Prop} {T id : String} (hT : s.TypeIs o T) (hl : typeLookup (.type T) "__getitem__" = pure (some (.builtin id)))
    (hs : ∀ x, id ≠ x → True) (h : wpAny (model prog w) A (getItem o i) Q E s) : wpAny (model prog w) A (subscriptTail value slice o i) Q E s := by
  unfold subscriptTail
  refine wpAny_bind ?_
  rw [getitemInPython_of_ne hT.not_modules]
  refine wpAny_bind (wpAny_specialOf hT hl ?_)
  have fin : wpAny (model prog w) A (subscripted slice false o i) (fun r s₃ => wpAny (model prog w) A (letTemporaryGo value o r >>= fun _ => pure r) Q E s₃) E s := by
    have q : wpAny (model prog w) A (getItem o i) (fun r s₃ => wpAny (model prog w) A (letTemporaryGo value o r >>= fun _ => pure r) Q E s₃) E s :=
      wpAny_mono h (fun r s₃ h₃ => wpAny_bind (wpAny_letTemporaryGo (wpAny_pure h₃))) fun _ _ x => x
    exact subscripted_ok q
  first
    | exact wpAny_pure (wpAny_bind fin)
    | exact wpAny_bind (wpAny_pure fin)
    | exact wpAny_bind fin

/-- what a subscript may be taken of -/
theorem typed_list {ex : List Addr} {s : Shared} {o : Value} {ds : List PyData} (r : Rep s.heap ex o (.list ds)) : ∃ T id, s.TypeIs o T ∧ typeLookup (.type T) "__getitem__" = pure (some (.builtin id)) :=
  let ⟨_, _, _, e, g, _⟩ := r.isList
  ⟨_, _, e ▸ Heap.IsList.typeIs (isList_of g), list_getitem_lookup⟩
theorem typed_tup {ex : List Addr} {s : Shared} {o : Value} {ds : List PyData} (r : Rep s.heap ex o (.tuple ds)) : ∃ T id, s.TypeIs o T ∧ typeLookup (.type T) "__getitem__" = pure (some (.builtin id)) :=
  let ⟨_, _, e, g, _⟩ := r.isTup
  ⟨_, _, e ▸ IsTup.typeIs g, F.slot_tuple_getitem.lookup⟩
theorem idx_typed {ex : List Addr} {s : Shared} {o : Value} {x y d : PyData} (r : Rep s.heap ex o x) (h : idxD x y = some d) : ∃ T id, s.TypeIs o T ∧ typeLookup (.type T) "__getitem__" = pure (some (.builtin id)) := by
  refine onI_el (fun k h => ?_) h
  cases x <;> first | exact nos h | skip
  · exact typed_list r
  · exact typed_tup r
theorem slc_typed {ex : List Addr} {s : Shared} {o : Value} {x y z d : PyData} (r : Rep s.heap ex o x) (h : slcD x y z = some d) : ∃ T id, s.TypeIs o T ∧ typeLookup (.type T) "__getitem__" = pure (some (.builtin id)) := by
  cases x <;> first | exact nos h | skip
  · exact rT_el (G := fun o => ∃ T id, s.TypeIs o T ∧ typeLookup (.type T) "__getitem__" = pure (some (.builtin id))) r (fun x t _ _ => ⟨_, _, typeIs_str .., F.slot_str_getitem.lookup⟩) h
  · exact typed_list r

theorem c_idx {a b : X} (ha : XE prog w W H C K n a) (hb : XE prog w W H C K n b) : XE prog w W H C K n (.idx a b) := fun A env ex own ρ s e d Q E c hc hv hQ => by
  refine invX_idx (P := fun e => wpAny (model prog w) A (eval e env) Q E s) (fun q1 q2 q3 hc => ?_) hc
  · simp only [Bool.and_eq_true] at hc
    dsimp only [evX_idx] at hv
    first | refine opND hv fun x hx hv => ?_ | refine opNL hv fun x hx hv => ?_
    · skip
      first | refine opND hv fun y hy hv => ?_ | refine opNL hv fun y hy hv => ?_
      · skip
        refine Subscript_ (ha A env ex own ρ s _ x _ _ c hc.1 hx fun u h' tk g ru => ?_)
        refine hb A env ex own ρ _ _ y _ _ (c.up W H n g) hc.2 hy fun v h'' tk' g' rv => ?_
        obtain ⟨T, id, hT, hl⟩ := idx_typed (s := { s with heap := h'', toks := tk' }) (ru.grow g') hv
        exact sub_tail hT hl (fun _ _ => trivial) (getItem_ok (s := { s with heap := h'', toks := tk' }) (ru.grow g') rv hv (hQ.from (g.trans g')))

theorem part_ok {lo : X} {l : Option Expr} {A : Around} {env : Env} {ex own : List Addr} {ρ : Ro} {s : Shared} {d : PyData} {Q E : Value → Shared → Prop} (c : Ctxt W H n A env ex own ρ s)
    (hc : (match l with | none => (match lo with | .nil => true | _ => false) | some l' => chX env.scope lo l') = true) (hl : XE prog w W H C K n lo) (hv : evX C K ρ lo = some d) (hQ : Post s (own ++ ex) d Q) : wpAny (model prog w) A (evalPart l env) Q E s := by
  cases l with
  | none =>
    cases lo <;> first | exact absurd hc Bool.false_ne_true | skip
    simp [evX_nil] at hv; subst hv
    rw [evalPart_none]; exact wpAny_pure (hQ.here .none)
  | some l' => rw [evalPart_some]; exact hl A env ex own ρ s l' d Q E c hc hv hQ

theorem c_slc {a lo hi : X} (ha : XE prog w W H C K n a) (hl : XE prog w W H C K n lo) (hh : XE prog w W H C K n hi) : XE prog w W H C K n (.slc a lo hi) := fun A env ex own ρ s e d Q E c hc hv hQ => by
  refine invX_slc (P := fun e => wpAny (model prog w) A (eval e env) Q E s) (fun q1 q2 q3 q4 q5 hc => ?_) hc
  · refine and3 (fun h1 h2 h3 => ?_) hc
    dsimp only [evX_slc] at hv
    first | refine opND hv fun x hx hv => ?_ | refine opNL hv fun x hx hv => ?_
    · skip
      first | refine opND hv fun y hy hv => ?_ | refine opNL hv fun y hy hv => ?_
      · skip
        first | refine opND hv fun z hz hv => ?_ | refine opNL hv fun z hz hv => ?_
        · skip
          refine Subscript_ (ha A env ex own ρ s _ x _ _ c h1 hx fun u h' tk g ru => ?_)
          refine wpAny_Slice (part_ok (c.up W H n g) h2 hl hy fun v h'' tk' g' rv => ?_)
          refine part_ok (c.up W H n (g.trans g')) h3 hh hz fun v2 h3' tk3 g3 rv2 => ?_
          rw [evalPart_none]
          refine wpAny_pure ?_
          have G3 := (g.trans g').trans g3
          have gp := Grow.push h3' { cls := .type "slice", data := .fields #[v, v2, .none] }
          obtain ⟨T, id, hT, hl⟩ := slc_typed (s := { s with heap := h3'.push { cls := .type "slice", data := .fields #[v, v2, .none] }, toks := tk3 }) (((ru.grow g').grow g3).grow gp) hv
          refine sub_tail hT hl (fun _ _ => trivial) (slice_ok (s := { s with heap := h3'.push { cls := .type "slice", data := .fields #[v, v2, .none] }, toks := tk3 }) (c.up W H n (G3.trans gp)).old (((ru.grow g').grow g3).grow gp) ((rv.grow g3).grow gp) (rv2.grow gp) (Heap.get?_push_size _ rfl) hv (hQ.from (G3.trans gp)))

set_option tactic.hygienic true in
theorem c_ite {t a b : X} (ht : XT prog w W H C K n t) (ha : XE prog w W H C K n a) (hb : XE prog w W H C K n b) : XE prog w W H C K n (.ite t a b) := fun A env ex own ρ s e d Q E c hc hv hQ => by
  refine invX_ite (P := fun e => wpAny (model prog w) A (eval e env) Q E s) (fun q1 q2 q3 q4 hc => ?_) hc
  · simp only [Bool.and_eq_true] at hc
    dsimp only [evX_ite] at hv
    split at hv
    · exact nos hv
    · rename_i hb'
      refine wpAny_IfExp (ht A env ex own ρ s _ _ _ _ c hc.1.1 hb' fun h' tk g => ?_)
      exact ha A env ex own ρ _ _ d _ _ (c.up W H n g) hc.1.2 hv (hQ.from g)
    · rename_i hb'
      refine wpAny_IfExp (ht A env ex own ρ s _ _ _ _ c hc.1.1 hb' fun h' tk g => ?_)
      exact hb A env ex own ρ _ _ d _ _ (c.up W H n g) hc.2 hv (hQ.from g)

theorem boB_of {k : Bool} {op : BoolOp} (h : boB k op = true) : op = (if k then .And else .Or) := by cases k <;> cases op <;> first | rfl | cases h

set_option tactic.hygienic true in
theorem bop_loop {k : Bool} : ∀ {xs : List X} {es : List Expr} {pos : Pos} {A : Around} {env : Env} {ex own : List Addr} {ρ : Ro} {s : Shared} {d : PyData} {Q E : Value → Shared → Prop}
    (_ : ∀ x ∈ xs, XE prog w W H C K n x) (_ : Ctxt W H n A env ex own ρ s) (_ : chXs env.scope xs es = true) (_ : evB C K ρ k xs = some d) (_ : Post s (own ++ ex) d Q),
    wpAny (model prog w) A (boolOp pos (if k then .And else .Or) (evalEach es env)) Q E s
  | [], _, _, _, _, _, _, _, _, _, _, _, _, _, _, hv, _ => by simp [evB_nil] at hv
  | [x], es, pos, A, env, ex, own, ρ, s, d, Q, E, hx, c, hc, hv, hQ => by
    cases es with
    | nil => exact absurd hc Bool.false_ne_true
    | cons e es =>
      cases es with
      | cons e2 es => rw [chXs_cons, chXs_nil, Bool.and_eq_true] at hc; exact absurd hc.2 Bool.false_ne_true
      | nil =>
        simp only [chXs_cons, Bool.and_eq_true] at hc
        simp only [evB_one] at hv
        exact hx x (.head _) A env ex own ρ s e d Q E c hc.1 hv hQ
  | x :: y :: xs, es, pos, A, env, ex, own, ρ, s, d, Q, E, hx, c, hc, hv, hQ => by
    cases es with
    | nil => exact absurd hc Bool.false_ne_true
    | cons e es =>
      cases es with
      | nil => rw [chXs_cons, chXs_cn, Bool.and_false] at hc; exact absurd hc Bool.false_ne_true
      | cons e2 es =>
        rw [chXs_cons, Bool.and_eq_true] at hc
        simp only [evB_cons] at hv
        first | refine opND hv fun d1 hd1 hv => ?_ | refine opNL hv fun d1 hd1 hv => ?_
        · skip
          split at hv
          · exact nos hv
          · rename_i b hb
            show wpAny (model prog w) A (eval e env >>= fun v => standAt pos >>= fun _ => holding [v] (truthy v) >>= fun t => _) Q E s
            refine wpAny_bind (hx x (.head _) A env ex own ρ s e d1 _ _ c hc.1 hd1 fun v h' tk g rv => ?_)
            refine wpAny_bind (wpAny_standAt (wpAny_bind (wpAny_holding (truthy_ok (s := { s with heap := h', toks := tk }) rv hb fun tk' => ?_))))
            cases k with
            | true =>
              cases b with
              | true =>
                simp only [if_true] at hv
                exact bop_loop (k := true) (fun z hz => hx z (.tail _ hz)) (c.up W H n g) hc.2 hv (hQ.from g)
              | false =>
                simp at hv; subst hv
                exact wpAny_pure (hQ _ _ _ g rv)
            | false =>
              cases b with
              | false =>
                simp only [if_true] at hv
                exact bop_loop (k := false) (fun z hz => hx z (.tail _ hz)) (c.up W H n g) hc.2 hv (hQ.from g)
              | true =>
                simp at hv; subst hv
                exact wpAny_pure (hQ _ _ _ g rv)
theorem c_bop {k : Bool} {xs : List X} (hx : ∀ x ∈ xs, XE prog w W H C K n x) : XE prog w W H C K n (.bop k xs) := fun A env ex own ρ s e d Q E c hc hv hQ => by
  refine invX_bop (P := fun e => wpAny (model prog w) A (eval e env) Q E s) (fun q1 q2 q3 hc => ?_) hc
  · simp only [Bool.and_eq_true] at hc
    have := boB_of hc.1; subst this
    exact bop_loop hx c hc.2 (by simpa only [evX_nil, evX_var, evX_int, evX_str, evX_bool, evX_bin, evX_neg, evX_cmp, evX_bop, evX_not, evX_ite, evX_list, evX_tup, evX_idx, evX_slc, evX_comp, evX_compR, evX_call, evX_bi, evX_meth, evX_isBytes, evX_mapF, evX_cmpK, evX_cmpV, evX_keysOf, evX_ownLast, evX_ownLen, evX_ownNotIn, evX_ownSorted] using hv) hQ
theorem c_not {a : X} : XE prog w W H C K n (.not a) := fun A env ex own ρ s e d Q E c hc hv hQ => by exact nos hv

/-- a global name -/
theorem globB_of {env : Env} {x : Str} (h : globB env.scope x = true) : env.kindOf x = some .globalImplicit := by unfold globB at h; exact eq_of_beq h
theorem glob_def {W' : WdOk prog w W H} {x : Str} {pos : Pos} {A : Around} {env : Env} {ex own : List Addr} {ρ : Ro} {s : Shared} {v : Value} {Q E : Value → Shared → Prop} (c : Ctxt W H n A env ex own ρ s) (hx : globB env.scope x = true) (hv : W.mg x = some v)
    (hd : (x == ("__debug__" : Str)) = false) (h : Q v s) : wpAny (model prog w) A (eval (.Name x pos) env) Q E s :=
  Calls.Name_function_global c.eo.kind (globB_of hx) (Calls.loadGlobal_global (by rw [c.eo.g]; exact W'.g.keeps c.st.grow) hv h) hd
theorem glob_bi {W' : WdOk prog w W H} {x : Str} {pos : Pos} {A : Around} {env : Env} {ex own : List Addr} {ρ : Ro} {s : Shared} {v : Value} {Q E : Value → Shared → Prop} (c : Ctxt W H n A env ex own ρ s) (hx : globB env.scope x = true) (hv : W.mg x = none ∧ W.mb x = some v)
    (hd : (x == ("__debug__" : Str)) = false) (h : Q v s) : wpAny (model prog w) A (eval (.Name x pos) env) Q E s :=
  Calls.Name_function_global c.eo.kind (globB_of hx) (Calls.loadGlobal_builtin (by rw [c.eo.g]; exact W'.g.keeps c.st.grow) hv.1 (by rw [c.eo.b]; exact W'.b.keeps c.st.grow) hv.2 h) hd

theorem cons_of {es : List Expr} (h : es.isEmpty = false) : ∃ e r, es = e :: r := by cases es with | nil => cases h | cons e r => exact ⟨e, r, rfl⟩

set_option tactic.hygienic true in
theorem c_call (W' : WdOk prog w W H) (hC : CallOk prog w W H C n) (f : String) {xs : List X} (hx : ∀ x ∈ xs, XE prog w W H C K n x) : XE prog w W H C K n (.call f xs) := fun A env ex own ρ s e d Q E c hc hv hQ => by
  refine invX_call (P := fun e => wpAny (model prog w) A (eval e env) Q E s) (fun q1 q2 q3 q4 hc => ?_) hc
  · simp only [Bool.and_eq_true, beq_iff_eq, Bool.not_eq_true'] at hc
    refine l5 (hc) fun ze15 hg hd hne hxs => ?_; subst ze15
    dsimp only [evX_call] at hv
    first | refine oV hv fun ds hds hv => ?_ | refine oC hv fun ds hds hv => ?_ | refine oO hv fun ds hds hv => ?_ | refine oI hv fun ds hds hv => ?_ | refine oT hv fun ds hds hv => ?_ | refine opS2D hv fun ds hds hv => ?_ | refine opS2L hv fun ds hds hv => ?_ | refine opS2B hv fun ds hds hv => ?_ | refine opS2S hv fun ds hds hv => ?_
    · skip
      refine e3_4 (hC f ds d hv) fun a o fd hm ho hf hcall => ?_
      refine e2_1 (cons_of hne) fun e0 r0 ze16 => ?_; subst ze16
      have he : ∀ y p, e0 ≠ .Starred y p := by
        cases xs with
        | nil => exact absurd hxs Bool.false_ne_true
        | cons x xs => simp only [chXs_cons, Bool.and_eq_true] at hxs; exact chX_star hxs.1
      refine Call_ (glob_def (W' := W') c hg hm hd ?_)
      refine callWith_def hf (args_ok hx c hxs hds fun vs h' tk g rs => ⟨g _ _ (c.st.grow _ _ ho), ?_⟩) (star_cons he)
      exact hcall A _ vs (own ++ ex) Q E c.room (c.st.grow.trans g) (c.old.up g) rs (hQ.from g)

set_option tactic.hygienic true in
theorem c_bi (W' : WdOk prog w W H) (f : String) {xs : List X} (hx : ∀ x ∈ xs, XE prog w W H C K n x) : XE prog w W H C K n (.bi f xs) := fun A env ex own ρ s e d Q E c hc hv hQ => by
  refine invX_bi (P := fun e => wpAny (model prog w) A (eval e env) Q E s) (fun q1 q2 q3 q4 hc => ?_) hc
  · simp only [Bool.and_eq_true, beq_iff_eq, Bool.not_eq_true'] at hc
    refine l5 (hc) fun ze17 hg hbn hne hxs => ?_; subst ze17
    dsimp only [evX_bi] at hv
    split at hv
    · rename_i ds hds
      refine e2_1 (cons_of hne) fun e0 r0 ze18 => ?_; subst ze18
      have hp : ∃ x xs', xs = x :: xs' ∧ chX env.scope x e0 = true ∧ chXs env.scope xs' r0 = true := by
        cases xs with
        | nil => exact absurd hxs Bool.false_ne_true
        | cons x xs => simp only [chXs_cons, Bool.and_eq_true] at hxs; exact ⟨x, xs, rfl, hxs.1, hxs.2⟩
      refine e2_3 (hp) fun x0 xs0 ze19 hx0 hxs0 => ?_; subst ze19
      have hmem : f ∈ biNames := by simpa using hbn
      have hdbg : (Str.ofString f == ("__debug__" : Str)) = false := by
        have : ∀ g ∈ biNames, (Str.ofString g == ("__debug__" : Str)) = false := by decide +kernel
        exact this f hmem
      refine Call_ (glob_bi (W' := W') c hg (W'.bis f hmem) hdbg ?_)
      have fin : ∀ pos, wpAny (model prog w) A (spliced (backTo pos (starEach (e0 :: r0) env))) (fun vs s₁ => wpAny (model prog w) A (call (biV f) vs) Q E s₁) E s := fun pos =>
        args_ok hx c hxs hds fun vs h' tk g rs => bi_ok (s := { s with heap := h', toks := tk }) (c.old.up g) c.room.handled c.room.u rs hv (hQ.from g)
      unfold biV at fin ⊢
      split
      · rename_i h1
        simp only [h1, if_true] at fin
        exact Pv.callWith_type1 (fin _) (star_cons (chX_star hx0)) (noStar _ hxs0)
      · rename_i h1
        split
        · rename_i h2
          simp only [h2, if_true] at fin
          exact Pv.callWith_type1 (fin _) (star_cons (chX_star hx0)) (noStar _ hxs0)
        · rename_i h2
          simp only [h1, h2, if_false] at fin
          exact PyProof.Rows.callWith_builtin1 (fin _) (star_cons (chX_star hx0)) (noStar _ hxs0)
    · exact nos hv
end
end Mine
end

section
open PySem PySem.W PyProof.Rows

namespace Mine
set_option tactic.hygienic false
section
variable {prog : Program} {w : World} {W : Wh} {H : Heap} {C : String → List PyData → Option PyData} {K : PyData → PyData → PyData → Option PyData} {n : Nat}

theorem chXs1 {sc : Scope} {a : X} {e : Expr} (h : chX sc a e = true) : chXs sc [a] [e] = true := by
  rw [chXs_cons]; rw [h, Bool.true_and]; rfl
theorem chXs2 {sc : Scope} {a b : X} {e f : Expr} (h : chX sc a e = true) (k : chX sc b f = true) : chXs sc [a, b] [e, f] = true := by
  rw [chXs_cons]; rw [h, Bool.true_and]; exact chXs1 k

theorem callWith_defF {pos : Pos} {f : Addr} {o : Obj} {fd : FuncData} {first : List Value} {e : Expr} {rest : List Expr} {env : Env} {M : Model} {A : Around} {s : Shared} {Q E : Value → Shared → Prop} (hdat : o.data = .func fd)
    (h : wpAny M A (spliced (backTo pos (starEach (e :: rest) env))) (fun vs s₁ => s₁.heap.get? f = some o ∧ wpAny M A (call (.ref f) (first ++ vs)) Q E s₁) E s)
    (he : starEach (e :: rest) env = (false, eval e env) :: starEach rest env) :
    wpAny M A (callWith pos (.ref f) first (backTo pos (starEach (e :: rest) env)) []) Q E s := by
  rw [he] at h ⊢
  exact Calls.callWith_function (o := o) (fd := fd) (Calls.evalArgs_plain (wpAny_mono h (fun vs s₁ h₁ => ⟨⟨h₁.1, hdat⟩, h₁.2⟩) fun _ _ x => x))

theorem own_ok {v : String} {A : Around} {env : Env} {ex own : List Addr} {ρ : Ro} {s : Shared} {ds : List PyData} (c : Ctxt W H n A env ex own ρ s) (hs : seen env v) (hr : ρ v = .own ds) :
    ∃ b vs k, (∀ (Q E : Value → Shared → Prop) pos, (Str.ofString v == ("__debug__" : Str)) = false → Q (.ref b) s → wpAny (model prog w) A (eval (.Name (Str.ofString v) pos) env) Q E s) ∧
      s.heap.get? b = some { cls := .type "list", data := .seq vs.toArray k } ∧ RepAll s.heap (own ++ ex) vs ds ∧ ds.length ≤ 1048576 ∧ b ∈ own := by
  refine e1_1 (c.st.names) fun σ N => ?_
  have hv' := N.2.2 v hs
  rw [hr] at hv'
  refine e3_5 (hv') fun b vs k hu hm g r l => ?_
  exact ⟨b, vs, k, fun Q E pos hd q => wpAny_Name (N.get c.eo.kind hs hu q) hd, g, r, l, hm⟩

theorem cmp_name {v : String} {A : Around} {env : Env} {ex own : List Addr} {ρ : Ro} {s : Shared} {k : PyData} (c : Ctxt W H n A env ex own ρ s) (hs : seen env v) (hr : ρ v = .cmp k) :
    ∃ b, (∀ (Q E : Value → Shared → Prop) pos, (Str.ofString v == ("__debug__" : Str)) = false → Q (.ref b) s → wpAny (model prog w) A (eval (.Name (Str.ofString v) pos) env) Q E s) ∧ CmpAt W.cc s.heap (own ++ ex) env.locals b k := by
  refine e1_1 (c.st.names) fun σ N => ?_
  have hv' := N.2.2 v hs
  rw [hr] at hv'
  refine e1_2 (hv') fun b hu cm => ?_
  exact ⟨b, fun Q E pos hd q => wpAny_Name (N.get c.eo.kind hs hu q) hd, cm⟩

set_option tactic.hygienic true in
theorem attr_ok {o : Expr} {name : Str} {env : Env} (ho : notSuper o = true) : attributeBase o name env (eval o env) = eval o env := by
  cases o <;> first | rfl | skip
  rename_i f a k p
  cases f <;> first | rfl | skip
  cases a with
  | cons _ _ => rfl
  | nil =>
    cases k with
    | cons _ _ => rfl
    | nil => exact absurd ho Bool.false_ne_true

/-- a method call, on its own line -/
theorem meth_eq {o : Expr} {name : Str} {apos pos : Pos} {args : List Expr} {env : Env} (ho : notSuper o = true) (hl : (apos.endLine == pos.line) = true) (hs : (backTo pos (starEach args env)).any (·.1) = false) (hn : args.length < 20) :
    ∃ pl, eval (.Call (.Attribute o name apos) args [] pos) env = (do
      let ov ← eval o env
      standAt apos.atName
      let (f, first) ← holding [ov] (getMethod ov name pl)
      callWith pos f first (backTo pos (starEach args env)) []) := by
  refine ⟨(do return (← importBound o env).getD true), ?_⟩
  have h1 : eval (.Call (.Attribute o name apos) args [] pos) env = (do
      let ov ← attributeBase o name env (eval o env)
      standAt apos.atName
      methodCall o name apos pos env ov (args.length + 0) (backTo pos (starEach args env)) []) := rfl
  have h2 : attributeBase o name env (eval o env) = eval o env := attr_ok ho
  have hall : (backTo pos (starEach args env)).all (!·.1) = true := by
    rw [List.all_eq_not_any_not]
    simpa using hs
  have h3 : methodCallForm (args.length + 0) (backTo pos (starEach args env)) [] = true := by
    unfold methodCallForm
    rw [hall]
    have h5 : args.length + 0 + 0 < 30 := by lia
    simpa using h5
  rw [h1, h2]
  unfold methodCall
  rw [h3]
  have h4 : methodCallPos true o env apos pos = pure pos := by unfold methodCallPos; rw [hl]; rfl
  rw [h4]
  rfl

theorem meth_call {o : Expr} {name : Str} {apos pos : Pos} {args : List Expr} {env : Env} {A : Around} {s : Shared} {Q E : Value → Shared → Prop} (ho : notSuper o = true) (hl : (apos.endLine == pos.line) = true)
    (hs : (backTo pos (starEach args env)).any (·.1) = false) (hn : args.length < 20)
    (h : ∀ pl, wpAny (model prog w) A (eval o env) (fun ov s₁ => wpAny (model prog w) A (getMethod ov name pl) (fun fx s₂ => wpAny (model prog w) A (callWith pos fx.1 fx.2 (backTo pos (starEach args env)) []) Q E s₂) E s₁) E s) :
    wpAny (model prog w) A (eval (.Call (.Attribute o name apos) args [] pos) env) Q E s := by
  obtain ⟨pl, e⟩ := meth_eq (name := name) (env := env) ho hl hs hn
  rw [e]
  refine wpAny_bind (wpAny_mono (h pl) (fun ov s₁ h₁ => wpAny_bind (wpAny_standAt (wpAny_bind (wpAny_holding (wpAny_mono h₁ (fun fx s₂ h₂ => h₂) fun _ _ x => x))))) fun _ _ x => x)

set_option tactic.hygienic true in
theorem c_meth (m : String) {o : X} {xs : List X} (ho : XE prog w W H C K n o) (hx : ∀ x ∈ xs, XE prog w W H C K n x) : XE prog w W H C K n (.meth m o xs) := fun A env ex own ρ s e d Q E c hc hv hQ => by
  refine invX_meth (P := fun e => wpAny (model prog w) A (eval e env) Q E s) (fun q1 q2 q3 q4 q5 hc => ?_) hc
  · simp only [Bool.and_eq_true, Bool.not_eq_true', decide_eq_true_eq] at hc
    refine l7 (hc) fun h1 h2 h3 h4 hne hlen hxs => ?_
    have h1 := str_eq h1; subst h1
    dsimp only [evX_meth] at hv
    split at hv
    · exact nos hv
    · rename_i x hx0
      split at hv
      · rename_i ds hds
        refine e2_1 (cons_of hne) fun e0 r0 ze20 => ?_; subst ze20
        have hp : ∃ x xs', xs = x :: xs' ∧ chX env.scope x e0 = true ∧ chXs env.scope xs' r0 = true := by
          cases xs with
          | nil => exact absurd hxs Bool.false_ne_true
          | cons x xs => simp only [chXs_cons, Bool.and_eq_true] at hxs; exact ⟨x, xs, rfl, hxs.1, hxs.2⟩
        refine e2_3 (hp) fun x0 xs0 ze21 hx1 hxs1 => ?_; subst ze21
        refine meth_call h3 h2 (noStar _ hxs) hlen fun pl => ?_
        refine ho A env ex own ρ s _ x _ _ c h4 hx0 fun u h' tk g ru => ?_
        refine getMethod_ok (s := { s with heap := h', toks := tk }) ru hv ?_
        refine PyProof.Rows.callWith_method1 (args_ok hx (c.up W H n g) hxs hds fun vs h'' tk' g' rs => ?_) (star_cons (chX_star hx1)) (noStar _ hxs1)
        exact meth_ok (s := { s with heap := h'', toks := tk' }) (c.up W H n (g.trans g')).old (ru.grow g') rs hv (hQ.from (g.trans g'))
      · exact nos hv

set_option tactic.hygienic true in
theorem c_isBytes (W' : WdOk prog w W H) {a : X} (ha : XE prog w W H C K n a) : XE prog w W H C K n (.isBytes a) := fun A env ex own ρ s e d Q E c hc hv hQ => by
  refine invX_isBytes (P := fun e => wpAny (model prog w) A (eval e env) Q E s) (fun q1 q2 q3 q4 q5 q6 hc => ?_) hc
  · refine and5 (fun h1 h2 h3 h4 h5 => ?_) hc
    have h1 := str_eq h1; subst h1
    have h3 := str_eq h3; subst h3
    dsimp only [evX_isBytes] at hv
    first | refine oV hv fun x hx hv => ?_ | refine oC hv fun x hx hv => ?_ | refine oO hv fun x hx hv => ?_ | refine oI hv fun x hx hv => ?_ | refine oT hv fun x hx hv => ?_ | refine opS2D hv fun x hx hv => ?_ | refine opS2L hv fun x hx hv => ?_ | refine opS2B hv fun x hx hv => ?_ | refine opS2S hv fun x hx hv => ?_
    · skip
      cases hv
      refine Call_ (glob_bi (W' := W') c h2 W'.isi (by decide +kernel) ?_)
      refine PyProof.Rows.callWith_builtin1 (args_cons (ha A env ex own ρ s _ _ _ _ c h5 hx fun u h' tk g ru => ?_) (star_cons (chX_star h5))) (star_cons (chX_star h5)) rfl
      refine args_cons (glob_bi (W' := W') (c.up W H n g) h4 W'.bytes (by decide +kernel) ?_)
      refine args_nil ?_
      cases ru
      exact IsiPair.str_bytes (hQ _ _ _ g (.bool _))

set_option tactic.hygienic true in
theorem c_mapF (W' : WdOk prog w W H) (hM : MapOk prog w W H n) {a : X} (ha : XE prog w W H C K n a) : XE prog w W H C K n (.mapF a) := fun A env ex own ρ s e d Q E c hc hv hQ => by
  refine invX_mapF (P := fun e => wpAny (model prog w) A (eval e env) Q E s) (fun q1 q2 q3 q4 q5 q6 q7 q8 q9 hc => ?_) hc
  · refine and7 (fun h1 h2 h3 h4 h5 h6 h7 => ?_) hc
    have h1 := str_eq h1; subst h1
    have h3 := str_eq h3; subst h3
    have h5 := str_eq h5; subst h5
    refine e1_2 (hM) fun f hf hmap => ?_
    dsimp only [evX_mapF] at hv
    first | refine oV hv fun x hx hv => ?_ | refine oC hv fun x hx hv => ?_ | refine oO hv fun x hx hv => ?_ | refine oI hv fun x hx hv => ?_ | refine oT hv fun x hx hv => ?_ | refine opS2D hv fun x hx hv => ?_ | refine opS2L hv fun x hx hv => ?_ | refine opS2B hv fun x hx hv => ?_ | refine opS2S hv fun x hx hv => ?_
    · skip
      first | refine oV hv fun ds hds hv => ?_ | refine oC hv fun ds hds hv => ?_ | refine oO hv fun ds hds hv => ?_ | refine oI hv fun ds hds hv => ?_ | refine oT hv fun ds hds hv => ?_ | refine opS2D hv fun ds hds hv => ?_ | refine opS2L hv fun ds hds hv => ?_ | refine opS2B hv fun ds hds hv => ?_ | refine opS2S hv fun ds hds hv => ?_
      · skip
        first | refine oV hv fun ss hss hv => ?_ | refine oC hv fun ss hss hv => ?_ | refine oO hv fun ss hss hv => ?_ | refine oI hv fun ss hss hv => ?_ | refine oT hv fun ss hss hv => ?_ | refine opS2D hv fun ss hss hv => ?_ | refine opS2L hv fun ss hss hv => ?_ | refine opS2B hv fun ss hss hv => ?_ | refine opS2S hv fun ss hss hv => ?_
        · skip
          cases hv
          have ht := W'.bis "tuple" (by decide +kernel)
          have : biV "tuple" = .type "tuple" := by decide +kernel
          rw [this] at ht
          refine Call_ (glob_bi (W' := W') c h2 ht (by decide +kernel) ?_)
          refine Pv.callWith_type1 (args_cons ?_)
          refine Call_ (glob_bi (W' := W') c h4 W'.map (by decide +kernel) ?_)
          refine Pv.callWith_type1 (args_cons (glob_def (W' := W') c h6 hf (by decide +kernel) ?_)) (hplain := noStar (xs := [a]) _ (chXs1 h7))
          refine args_cons (ha A env ex own ρ s _ _ _ _ c h7 hx fun u h' tk g ru => ?_) (star_cons (chX_star h7))
          refine args_nil ?_
          refine wpAny_mono (hmap A _ u x ds ss (own ++ ex) Q E c.room (c.st.grow.trans g) (c.old.up g) ru hds hss (hQ.from g)) (fun m s₁ h₁ => args_nil h₁) fun _ _ e => e

theorem c_cmpK (W' : WdOk prog w W H) (hK : CmpOk prog w W H K n) {k l r : X} (hk : XE prog w W H C K n k) (hl : XE prog w W H C K n l) (hr : XE prog w W H C K n r) : XE prog w W H C K n (.cmpK k l r) := fun A env ex own ρ s e d Q E c hc hv hQ => by
  refine invX_cmpK (P := fun e => wpAny (model prog w) A (eval e env) Q E s) (fun q1 q2 q3 q4 q5 q6 q7 q8 q9 hc => ?_) hc
  · refine and7 (fun h1 h2 h3 h4 h5 h6 h7 => ?_) hc
    have h1 := str_eq h1; subst h1
    have h3 := str_eq h3; subst h3
    dsimp only [evX_cmpK] at hv
    first | refine opND hv fun dk hdk hv => ?_ | refine opNL hv fun dk hdk hv => ?_
    · skip
      first | refine opND hv fun dl hdl hv => ?_ | refine opNL hv fun dl hdl hv => ?_
      · skip
        first | refine opND hv fun dr hdr hv => ?_ | refine opNL hv fun dr hdr hv => ?_
        · skip
          refine e3_4 (hK.meth) fun f o fd ho hf hgm hcall => ?_
          refine meth_call rfl h4 (noStar (xs := [l, r]) _ (chXs2 h6 h7)) (by simp) fun pl => ?_
          refine Call_ (glob_def (W' := W') c h2 hK.cls (by decide +kernel) ?_)
          refine hK.with_ _ _ _ _ _ _ _ (star_cons (chX_star h5)) ?_
          refine hk A env ex own ρ s _ _ _ _ c h5 hdk fun u h' tk g ru => ⟨c.st.grow.trans g, ?_⟩
          have hL : ∃ o, s.heap.get? env.locals = some o := by
            refine e1_2 (c.st.names) fun σ zt22 zz => ?_
            refine e1_2 (zt22) fun m zt23 zz => ?_
            refine e3_2 (zt23) fun o es ep e zz => ?_
            exact ⟨o, e⟩
          refine hK.make _ _ _ _ (own ++ ex) env.locals _ _ c.room (c.st.grow.trans g) (c.old.up g) ru (let ⟨o, e⟩ := hL; ⟨o, g _ _ e⟩) fun h1 tk1 b g1 cm => ?_
          have G1 := g.trans g1
          refine hgm _ { s with heap := h1, toks := tk1 } _ _ _ _ _ _ _ (c.st.grow.trans G1) cm ?_
          refine callWith_defF hf ?_ (star_cons (chX_star h6))
          refine args_ok (xs := [l, r]) (by simp; exact ⟨hl, hr⟩) (c.up W H n G1) (ds := [dl, dr]) (chXs2 h6 h7) (by simp [evXs_nil, evXs_cons, hdl, hdr]) fun vs h2 tk2 g2 rs => ⟨(c.st.grow.trans (G1.trans g2)) _ _ ho, ?_⟩
          cases rs with
          | cons rl rs =>
            cases rs with
            | cons rr rs =>
              cases rs
              have hL2 : ∃ m, h1.Ns env.locals m := by
                refine e1_2 (c.st.names) fun σ zt24 zz => ?_
                refine e1_2 (zt24) fun m hn zz => ?_
                exact ⟨m, hn.keeps G1⟩
              exact hcall _ { s with heap := h2, toks := tk2 } _ _ _ _ _ _ _ _ _ _ _ hv c.room (c.st.grow.trans (G1.trans g2)) (c.up W H n (G1.trans g2)).old (cm.pres (g2.pres _) hL2) rl rr (hQ.from (G1.trans g2))

set_option tactic.hygienic true in
theorem c_cmpV (hK : CmpOk prog w W H K n) {v : String} {l r : X} (hl : XE prog w W H C K n l) (hr : XE prog w W H C K n r) : XE prog w W H C K n (.cmpV v l r) := fun A env ex own ρ s e d Q E c hc hv hQ => by
  refine invX_cmpV (P := fun e => wpAny (model prog w) A (eval e env) Q E s) (fun q1 q2 q3 q4 q5 q6 q7 hc => ?_) hc
  · simp only [Bool.and_eq_true, Bool.not_eq_true'] at hc
    refine l7 (hc) fun h1 h2 h3 h4 h5 h6 h7 => ?_
    have h1 := str_eq h1; subst h1
    have h4 := str_eq h4; subst h4
    dsimp only [evX_cmpV] at hv
    first | refine oV hv fun k hr' hv => ?_ | refine oC hv fun k hr' hv => ?_ | refine oO hv fun k hr' hv => ?_ | refine oI hv fun k hr' hv => ?_ | refine oT hv fun k hr' hv => ?_ | refine opS2D hv fun k hr' hv => ?_ | refine opS2L hv fun k hr' hv => ?_ | refine opS2B hv fun k hr' hv => ?_ | refine opS2S hv fun k hr' hv => ?_
    · skip
      first | refine opND hv fun dl hdl hv => ?_ | refine opNL hv fun dl hdl hv => ?_
      · skip
        first | refine opND hv fun dr hdr hv => ?_ | refine opNL hv fun dr hdr hv => ?_
        · skip
          refine e3_4 (hK.meth) fun f o fd ho hf hgm hcall => ?_
          obtain ⟨b, hb, cm⟩ := cmp_name (prog := prog) (w := w) c (seen_of h2) hr'
          refine meth_call rfl h5 (noStar (xs := [l, r]) _ (chXs2 h6 h7)) (by simp) fun pl => ?_
          refine hb _ _ _ h3 ?_
          refine hgm _ s _ _ _ _ _ _ _ c.st.grow cm ?_
          refine callWith_defF hf ?_ (star_cons (chX_star h6))
          refine args_ok (xs := [l, r]) (by simp; exact ⟨hl, hr⟩) c (ds := [dl, dr]) (chXs2 h6 h7) (by simp [evXs_nil, evXs_cons, hdl, hdr]) fun vs h2 tk2 g2 rs => ⟨(c.st.grow.trans g2) _ _ ho, ?_⟩
          cases rs with
          | cons rl rs =>
            cases rs with
            | cons rr rs =>
              cases rs
              have hL2 : ∃ m, s.heap.Ns env.locals m := by
                refine e1_2 (c.st.names) fun σ zt25 zz => ?_
                refine e1_2 (zt25) fun m hn zz => ?_
                exact ⟨m, hn⟩
              exact hcall _ { s with heap := h2, toks := tk2 } _ _ _ _ _ _ _ _ _ _ _ hv c.room (c.st.grow.trans g2) (c.up W H n g2).old (cm.pres (g2.pres _) hL2) rl rr (hQ.from g2)

set_option tactic.hygienic true in
theorem c_keysOf (hK : CmpOk prog w W H K n) {v : String} : XE prog w W H C K n (.keysOf v) := fun A env ex own ρ s e d Q E c hc hv hQ => by
  refine invX_keysOf (P := fun e => wpAny (model prog w) A (eval e env) Q E s) (fun q1 q2 q3 q4 hc => ?_) hc
  · simp only [Bool.and_eq_true, Bool.not_eq_true'] at hc
    refine l4 (hc) fun h1 h2 h3 h4 => ?_
    have h1 := str_eq h1; subst h1
    have h4 := str_eq h4; subst h4
    dsimp only [evX_keysOf] at hv
    first | refine oV hv fun k hr' hv => ?_ | refine oC hv fun k hr' hv => ?_ | refine oO hv fun k hr' hv => ?_ | refine oI hv fun k hr' hv => ?_ | refine oT hv fun k hr' hv => ?_ | refine opS2D hv fun k hr' hv => ?_ | refine opS2L hv fun k hr' hv => ?_ | refine opS2B hv fun k hr' hv => ?_ | refine opS2S hv fun k hr' hv => ?_
    · skip
      cases hv
      obtain ⟨b, hb, cm⟩ := cmp_name (prog := prog) (w := w) c (seen_of h2) hr'
      rw [arm_eval_Attribute]
      refine wpAny_bind (show wpAny (model prog w) A (eval (.Name (Str.ofString v) _) env) _ E s from hb _ _ _ h3 ?_)
      refine wpAny_bind (wpAny_standAt (wpAny_bind (wpAny_holding ?_)))
      refine hK.attr _ s _ _ _ _ _ _ _ c.st.grow cm fun u tk ru => ?_
      exact wpAny_bind (wpAny_letTemporaryGo (wpAny_pure (hQ _ _ _ (Grow.refl _) ru)))

set_option tactic.hygienic true in
theorem c_ownLast {v : String} : XE prog w W H C K n (.ownLast v) := fun A env ex own ρ s e d Q E c hc hv hQ => by
  refine invX_ownLast (P := fun e => wpAny (model prog w) A (eval e env) Q E s) (fun q1 q2 q3 q4 q5 q6 hc => ?_) hc
  · simp only [Bool.and_eq_true, Bool.not_eq_true'] at hc
    refine l3 (hc) fun h1 h2 h3 => ?_
    have h1 := str_eq h1; subst h1
    dsimp only [evX_ownLast] at hv
    first | refine oV hv fun ds hr' hv => ?_ | refine oC hv fun ds hr' hv => ?_ | refine oO hv fun ds hr' hv => ?_ | refine oI hv fun ds hr' hv => ?_ | refine oT hv fun ds hr' hv => ?_ | refine opS2D hv fun ds hr' hv => ?_ | refine opS2L hv fun ds hr' hv => ?_ | refine opS2B hv fun ds hr' hv => ?_ | refine opS2S hv fun ds hr' hv => ?_
    · skip
      obtain ⟨b, vs, k, hb, g, r, l, _⟩ := own_ok (prog := prog) (w := w) c (seen_of h2) hr'
      refine Subscript_ (hb _ _ _ h3 ?_)
      refine wpAny_UnaryOp (wpAny_Constant_int (P.neg_int ?_))
      refine sub_tail (Heap.IsList.typeIs (s := { s with toks := _ }) (isList_of g)) list_getitem_lookup (fun _ _ => trivial) ?_
      rw [List.getLast?_eq_getElem?] at hv
      refine e1_2 (r.get hv) fun u hu ru => ?_
      refine getLast_ok (s := { s with toks := _ }) g (v := u) (by rw [List.getLast?_eq_getElem?, r.length]; exact hu) ?_
      exact hQ _ _ _ (Grow.refl _) ru

set_option tactic.hygienic true in
theorem c_ownLen (W' : WdOk prog w W H) {v : String} : XE prog w W H C K n (.ownLen v) := fun A env ex own ρ s e d Q E c hc hv hQ => by
  refine invX_ownLen (P := fun e => wpAny (model prog w) A (eval e env) Q E s) (fun q1 q2 q3 q4 q5 hc => ?_) hc
  · simp only [Bool.and_eq_true, Bool.not_eq_true'] at hc
    refine l5 (hc) fun h0 h00 h1 h2 h3 => ?_
    have h0 := str_eq h0; subst h0
    have h1 := str_eq h1; subst h1
    dsimp only [evX_ownLen] at hv
    first | refine oV hv fun ds hr' hv => ?_ | refine oC hv fun ds hr' hv => ?_ | refine oO hv fun ds hr' hv => ?_ | refine oI hv fun ds hr' hv => ?_ | refine oT hv fun ds hr' hv => ?_ | refine opS2D hv fun ds hr' hv => ?_ | refine opS2L hv fun ds hr' hv => ?_ | refine opS2B hv fun ds hr' hv => ?_ | refine opS2S hv fun ds hr' hv => ?_
    · skip
      cases hv
      obtain ⟨b, vs, k, hb, g, r, l, _⟩ := own_ok (prog := prog) (w := w) c (seen_of h2) hr'
      have hl := W'.bis "len" (by decide +kernel)
      have : biV "len" = .builtin "len" := by decide +kernel
      rw [this] at hl
      refine Call_ (glob_bi (W' := W') c h00 hl (by decide +kernel) ?_)
      refine PyProof.Rows.callWith_builtin1 (args_cons (hb _ _ _ h3 (args_nil ?_)))
      refine Calls.call_len_list (isList_of g) (by rw [List.size_toArray, r.length]; lia) ?_
      rw [List.size_toArray, r.length]
      exact hQ.atom (.int _ _)

set_option tactic.hygienic true in
theorem c_ownNotIn {a : X} {v : String} (ha : XE prog w W H C K n a) : XE prog w W H C K n (.ownNotIn a v) := fun A env ex own ρ s e d Q E c hc hv hQ => by
  refine invX_ownNotIn (P := fun e => wpAny (model prog w) A (eval e env) Q E s) (fun q1 q2 q3 q4 hc => ?_) hc
  · simp only [Bool.and_eq_true, Bool.not_eq_true'] at hc
    refine l4 (hc) fun h0 h1 h2 h3 => ?_
    have h1 := str_eq h1; subst h1
    dsimp only [evX_ownNotIn] at hv
    first | refine opND hv fun x hx hv => ?_ | refine opNL hv fun x hx hv => ?_
    · skip
      first | refine oV hv fun ds hr' hv => ?_ | refine oC hv fun ds hr' hv => ?_ | refine oO hv fun ds hr' hv => ?_ | refine oI hv fun ds hr' hv => ?_ | refine oT hv fun ds hr' hv => ?_ | refine opS2D hv fun ds hr' hv => ?_ | refine opS2L hv fun ds hr' hv => ?_ | refine opS2B hv fun ds hr' hv => ?_ | refine opS2S hv fun ds hr' hv => ?_
      · skip
        refine if_el (fun hs hv => ?_) hv
        · skip
          cases hv
          simp only [Bool.and_eq_true] at hs
          refine wpAny_Compare1 (ha A env ex own ρ s _ _ _ _ c h0 hx fun u h' tk g ru => ?_) rfl
          obtain ⟨b, vs, k, hb, g', r, l, _⟩ := own_ok (prog := prog) (w := w) (c.up W H n g (tk := tk)) (seen_of h2) hr'
          refine hb _ _ _ h3 ?_
          exact notin_ownok (s := { s with heap := h', toks := tk }) ru g' r hs.1 hs.2 c.room.u (hQ _ _ _ g (.bool _))

set_option tactic.hygienic true in
theorem c_ownSorted (W' : WdOk prog w W H) {v : String} : XE prog w W H C K n (.ownSorted v) := fun A env ex own ρ s e d Q E c hc hv hQ => by
  refine invX_ownSorted (P := fun e => wpAny (model prog w) A (eval e env) Q E s) (fun q1 q2 q3 q4 q5 hc => ?_) hc
  · simp only [Bool.and_eq_true, Bool.not_eq_true'] at hc
    refine l5 (hc) fun h0 h00 h1 h2 h3 => ?_
    have h0 := str_eq h0; subst h0
    have h1 := str_eq h1; subst h1
    dsimp only [evX_ownSorted] at hv
    first | refine oV hv fun ds hr' hv => ?_ | refine oC hv fun ds hr' hv => ?_ | refine oO hv fun ds hr' hv => ?_ | refine oI hv fun ds hr' hv => ?_ | refine oT hv fun ds hr' hv => ?_ | refine opS2D hv fun ds hr' hv => ?_ | refine opS2L hv fun ds hr' hv => ?_ | refine opS2B hv fun ds hr' hv => ?_ | refine opS2S hv fun ds hr' hv => ?_
    · skip
      obtain ⟨b, vs, k, hb, g, r, l, _⟩ := own_ok (prog := prog) (w := w) c (seen_of h2) hr'
      refine Call_ (glob_bi (W' := W') c h00 W'.sorted (by decide +kernel) ?_)
      refine PyProof.Rows.callWith_builtin1 (args_cons (hb _ _ _ h3 (args_nil ?_)))
      exact sorted_ok c.old g r hv hQ
end
end Mine
end

section
open PySem PySem.W PyProof.Rows

namespace Mine
set_option tactic.hygienic false

/-- the lists and tuples outside exx that lay in h0 still lie in h -/
noncomputable def Kp (exx : List Addr) (h0 h : Heap) : Prop := ∀ b (o : Obj), b ∉ exx → (∃ xs n, o.data = .seq xs n) → h0.get? b = some o → h.get? b = some o
theorem Grow.kp {h0 h : Heap} (g : Grow h0 h) (exx : List Addr) : Kp exx h0 h := fun _ _ _ _ e => g _ _ e

mutual
theorem Rep.mores {h : Heap} {ex ex' : List Addr} (ha : ∀ a ∈ ex', a ∈ ex ∨ h.get? a = Option.none) : ∀ {v : Value} {d : PyData}, Rep h ex v d → Rep h (ex' ++ ex) v d
  | _, _, .none => .none
  | _, _, .bool b => .bool b
  | _, _, .int i t => .int i t
  | _, _, .str x t e => .str x t e
  | _, _, .list g n l r => .list g (fun m => by
      rcases List.mem_append.mp m with m | m
      · rcases ha _ m with q | q
        · exact n q
        · rw [g] at q; cases q
      · exact n m) l (RepAll.mores ha r)
  | _, _, .tuple g n l r => .tuple g (fun m => by
      rcases List.mem_append.mp m with m | m
      · rcases ha _ m with q | q
        · exact n q
        · refine e1_2 (g) fun o e zz => ?_
          rw [e] at q; cases q
      · exact n m) l (RepAll.mores ha r)
theorem RepAll.mores {h : Heap} {ex ex' : List Addr} (ha : ∀ a ∈ ex', a ∈ ex ∨ h.get? a = Option.none) : ∀ {vs : List Value} {ds : List PyData}, RepAll h ex vs ds → RepAll h (ex' ++ ex) vs ds
  | _, _, .nil => .nil
  | _, _, .cons x r => .cons (Rep.mores ha x) (RepAll.mores ha r)
end
theorem Rep.over {h0 h : Heap} {ex ex' : List Addr} {v : Value} {d : PyData} (r : Rep h0 ex v d) (ha : ∀ a ∈ ex', a ∈ ex ∨ h0.get? a = Option.none) (k : Kp ex h0 h) : Rep h ex' v d :=
  ((r.mores ha).keep fun b o hb q e => k b o (fun m => hb (List.mem_append.mpr (.inr m))) q e).less fun a m => List.mem_append.mpr (.inl m)

/-- an iterator over what reads ds -/
structure Wk (prog : Program) (w : World) (A : Around) (h0 : Heap) (exx : List Addr) (I : Addr) (wr : List Addr) (ds : List PyData) (St : Nat → Heap → Prop) : Prop where
  mine : I ∈ wr
  frame : ∀ i h h', St i h → Kp exx h0 h' → (∀ b ∈ wr, ∀ o, h.get? b = some o → h'.get? b = some o) → St i h'
  kept : ∀ i h, St i h → Kp exx h0 h
  flds : ∀ i h, St i h → ∀ b ∈ wr, ∃ o vs, h.get? b = some o ∧ o.data = .fields vs
  item : ∀ i d (s : Shared) (Q : Option Value → Shared → Prop) (E : Value → Shared → Prop), ds[i]? = some d → St i s.heap →
    (∀ v h' tk, (∀ exx', (∀ a ∈ exx', (a ∈ exx ∨ h0.get? a = none) ∧ ∃ o, s.heap.get? a = some o) → Rep h' exx' v d) → St (i + 1) h' → (∀ b o, b ∉ wr → s.heap.get? b = some o → h'.get? b = some o) → Q (some v) { s with heap := h', toks := tk }) →
    wpAny (model prog w) A (pyNext (.ref I)) Q E s
  done : ∀ (s : Shared) (Q : Option Value → Shared → Prop) (E : Value → Shared → Prop), St ds.length s.heap →
    (∀ h' tk, (∀ b o, b ∉ wr → s.heap.get? b = some o → h'.get? b = some o) → Q none { s with heap := h', toks := tk }) → wpAny (model prog w) A (pyNext (.ref I)) Q E s
  self : ∀ i (s : Shared) (Q : Value → Shared → Prop) (E : Value → Shared → Prop), St i s.heap → Q (.ref I) s → wpAny (model prog w) A (pyIter (.ref I)) Q E s
  go : ∀ tgt v i (s : Shared) (Q : Unit → Shared → Prop) (E : Value → Shared → Prop), St i s.heap → Q () s → wpAny (model prog w) A (letOwnedTupleGo tgt (.ref I) v) Q E s

noncomputable def ownTypes : List String := ["enumerate", "zip", "dict_itemiterator", "dict_reverseitemiterator", "odict_iterator", "itertools.zip_longest", "itertools.pairwise"]
theorem go_plain {prog : Program} {w : World} {A : Around} {tgt : Expr} {v : Value} {I : Addr} {o : Obj} {T : String} {vs : Array Value} {s : Shared} {Q : Unit → Shared → Prop} {E : Value → Shared → Prop}
    (e : s.heap.get? I = some o) (hc : o.cls = .type T) (hd : o.data = .fields vs) (hT : ownTypes.contains T = false) (h : Q () s) : wpAny (model prog w) A (letOwnedTupleGo tgt (.ref I) v) Q E s := by
  have key : ∀ a, wpAny (model prog w) A (do
      let o ← load I
      match o.cls, o.data with
      | .type n, .fields vs =>
        if ["enumerate", "zip", "dict_itemiterator", "dict_reverseitemiterator", "odict_iterator", "itertools.zip_longest", "itertools.pairwise"].contains n && vs[0]? == some (rawInt a) then
          rule "for.unpacks-the-owned-tuple"
          updateField I 0 .none
      | _, _ => pure ()) Q E s := by
    intro a
    refine wpAny_bind (wpAny_load e ?_)
    obtain ⟨c, d, dt, sl⟩ := o
    dsimp only at hc hd
    subst hc; subst hd
    dsimp only
    have hT' : ["enumerate", "zip", "dict_itemiterator", "dict_reverseitemiterator", "odict_iterator", "itertools.zip_longest", "itertools.pairwise"].contains T = false := hT
    rw [hT', Bool.false_and, if_neg Bool.false_ne_true]
    exact wpAny_pure h
  unfold letOwnedTupleGo
  cases tgt <;> first | exact wpAny_pure h | (cases v <;> first | exact key _ | exact wpAny_pure h)

/-- by a walk of the library whose items read ds -/
theorem Wk.of {prog : Program} {w : World} {A : Around} {h0 : Heap} {exx : List Addr} {I : Addr} {fp : List Addr} {n : Nat} {ds : List PyData} {P : Nat → Value → Prop} {St : Nat → Heap → Prop}
    (W : Walks prog w A I fp [I] n P St) (hn : n = ds.length) (hP : ∀ i v d, P i v → ds[i]? = some d → Rep h0 exx v d) (hfp : ∀ b ∈ fp, b = I ∨ (b ∉ exx ∧ ∃ o, h0.get? b = some o ∧ ∃ xs n, o.data = .seq xs n))
    (hcl : ∀ i h, St i h → ∃ o vs T, h.get? I = some o ∧ o.data = .fields vs ∧ o.cls = .type T ∧ ownTypes.contains T = false) :
    Wk prog w A h0 exx I [I] ds (fun i h => St i h ∧ Kp exx h0 h) where
  mine := by simp
  frame := fun i h h' st k hw => ⟨W.frame i h h' st.1 fun b hb o e => by
    rcases hfp b hb with rfl | ⟨hx, o', e', q⟩
    · exact hw _ (by simp) o e
    · have := st.2 b o' hx q e'
      rw [this] at e; cases e
      exact k b o hx q e', k⟩
  kept := fun _ _ st => st.2
  flds := fun i h st b hb => by simp at hb; subst hb; obtain ⟨o, vs, T, a, b, _⟩ := hcl i h st.1; exact ⟨o, vs, a, b⟩
  item := fun i d s Q E hd st hQ => by
    have hi : i < n := by rw [hn]; exact (List.getElem?_eq_some_iff.mp hd).1
    refine W.item i s Q E hi st.1 fun v h' tk hp st' hk => ?_
    have kp : Kp exx h0 h' := fun b o hx q e => by
      have := st.2 b o hx q e
      refine hk b o ?_ this
      intro hb; simp at hb; subst hb
      refine e3_3 (hcl _ _ st.1) fun o' vs T e' q' zz => ?_
      rw [this] at e'; cases e'
      refine e2_1 (q) fun xs m q => ?_
      rw [q] at q'; cases q'
    exact hQ v h' tk (fun exx' hx => (hP i v d hp hd).over (fun a m => (hx a m).1) kp) ⟨st', kp⟩ hk
  done := fun s Q E st hQ => W.done s Q E (hn ▸ st.1) hQ
  self := fun i s Q E st hQ => W.self i s Q E st.1 hQ
  go := fun tgt v i s Q E st hQ => by
    refine e3_4 (hcl i _ st.1) fun o vs T e d c hT => ?_
    exact go_plain e c d hT hQ

section
variable {prog : Program} {w : World} {A : Around} {s : Shared} {exx : List Addr}

/-- what pyIter is to give -/
noncomputable def Iters (prog : Program) (w : World) (A : Around) (exx : List Addr) (s : Shared) (ds : List PyData) (it : Value) (s₂ : Shared) : Prop :=
  ∃ I wr St h', s₂ = { s with heap := h', toks := s₂.toks } ∧ it = .ref I ∧ Grow s.heap h' ∧ Wk prog w A h' exx I wr ds St ∧ St 0 h' ∧ ∀ b ∈ wr, s.heap.get? b = none

set_option tactic.hygienic true in
theorem iter_ok {v : Value} {x : PyData} {ds : List PyData} {E : Value → Shared → Prop} (hh : A.handled = none) (r : Rep s.heap exx v x) (hx : itemsD x = some ds) (ho : Old s exx) :
    wpAny (model prog w) A (pyIter v) (Iters prog w A exx s ds) E s := by
  cases r with
  | list g hn l r =>
    rename_i a vs n ds'
    cases hx
    refine wpAny_pyIter_list (isList_of g) ⟨s.heap.objs.size, [s.heap.objs.size], fun i h => (h.IsListIter s.heap.objs.size a i ∧ h.IsList a vs.toArray) ∧ Kp exx (s.heap.push { cls := .type "list_iterator", data := .fields #[.ref a, .int 0 0] }) h, _, rfl, rfl, Grow.push _ _, ?_, ?_, fun b hb => ?_⟩
    · refine Wk.of (Walks.list hh _ a (Nat.ne_of_lt (Heap.lt_size g)) vs.toArray) (by rw [List.size_toArray, r.length]) (fun i v d hp hd => ?_) (fun b hb => ?_) (fun i h st => ?_)
      · obtain ⟨v', hv', rv⟩ := (r.grow (Grow.push _ { cls := .type "list_iterator", data := .fields #[.ref a, .int 0 0] })).get hd
        have : vs[i]? = some v := by simpa using hp
        rw [this] at hv'; cases hv'
        exact rv
      · simp at hb
        rcases hb with rfl | rfl
        · exact .inl rfl
        · exact .inr ⟨hn, _, Grow.push _ _ _ _ g, _, _, rfl⟩
      · obtain ⟨⟨o, e, c, q⟩, _⟩ := st; exact ⟨o, _, _, e, q, c, by decide +kernel⟩
    · exact ⟨⟨⟨_, Heap.get?_push_size _ rfl, rfl, rfl⟩, (isList_of g).push _⟩, fun b o _ _ e => e⟩
    · simp at hb; subst hb; exact Grow.fresh (Nat.le_refl _)
  | tuple g hn l r =>
    rename_i a vs ds'
    cases hx
    refine iter_tuple g ⟨s.heap.objs.size, [s.heap.objs.size], fun i h => (h.IsTupleIter s.heap.objs.size a i ∧ h.IsTuple a vs.toArray) ∧ Kp exx (s.heap.push { cls := .type "tuple_iterator", data := .fields #[.ref a, .int 0 0] }) h, _, rfl, rfl, Grow.push _ _, ?_, ?_, fun b hb => ?_⟩
    · refine Wk.of (Walks.tuple hh _ a (by obtain ⟨o, e, _⟩ := g; exact Nat.ne_of_lt (Heap.lt_size e)) vs.toArray) (by rw [List.size_toArray, r.length]) (fun i v d hp hd => ?_) (fun b hb => ?_) (fun i h st => ?_)
      · obtain ⟨v', hv', rv⟩ := (r.grow (Grow.push _ { cls := .type "tuple_iterator", data := .fields #[.ref a, .int 0 0] })).get hd
        have : vs[i]? = some v := by simpa using hp
        rw [this] at hv'; cases hv'
        exact rv
      · simp at hb
        rcases hb with rfl | rfl
        · exact .inl rfl
        · refine e1_3 (g) fun o e zz q => ?_
          exact .inr ⟨hn, _, Grow.push _ _ _ _ e, let ⟨n, q⟩ := q; ⟨_, n, q⟩⟩
      · obtain ⟨⟨o, e, c, q⟩, _⟩ := st; exact ⟨o, _, _, e, q, c, by decide +kernel⟩
    · exact ⟨⟨⟨_, Heap.get?_push_size _ rfl, rfl, rfl⟩, g.keeps (Grow.push _ _)⟩, fun b o _ _ e => e⟩
    · simp at hb; subst hb; exact Grow.fresh (Nat.le_refl _)
  | _ => exact nos hx

theorem range_items (a b : Int) (ds : List PyData) (h : ds = (List.range (b - a).toNat).map fun i => .int (a + (i : Nat))) {exx : List Addr} {h0 : Heap} {i : Nat} {v : Value} {d : PyData} (hv : ∃ t, v = .int (a + (i : Int) * 1) t) (hd : ds[i]? = some d) : Rep h0 exx v d := by
  refine e1_1 (hv) fun t ze32 => ?_; subst ze32
  subst h
  rw [List.getElem?_map] at hd
  cases hi : (List.range (b - a).toNat)[i]? with
  | none => rw [hi] at hd; cases hd
  | some j =>
    rw [hi] at hd
    have := List.getElem?_eq_some_iff.mp hi
    obtain ⟨hl, e⟩ := this
    simp at e; subst e
    simp at hd; subst hd
    rw [Int.mul_one]
    exact .int _ _

/-- the walk of a range of ints -/
theorem range_ok {a b : Int} {t u c : Tok} {r : Addr} {E : Value → Shared → Prop} (hh : A.handled = none) (hr : IsRange s.heap r a b 1 t u c) (ha : 0 ≤ a) (ha' : a < 1048576) (hb : -1048576 < b) (hb' : b < 1048576) :
    wpAny (model prog w) A (pyIter (.ref r)) (Iters prog w A exx s ((List.range (b - a).toNat).map fun i => .int (a + (i : Nat)))) E s := by
  refine wpAny_pyIter_range hr (small_one (by lia) (by lia) (by lia) (by lia)) ?_
  rw [rangeSize_one]
  refine ⟨s.heap.objs.size, [s.heap.objs.size], fun i h => IsRangeIter h s.heap.objs.size (a + (i : Nat) * 1) (((b - a).toNat : Int) - (i : Nat)) 1 ∧ Kp exx (s.heap.push { cls := .type "range_iterator", data := .fields #[rawInt a, rawInt (if a < b then b - a else 0), rawInt 1] }) h, _, rfl, rfl, Grow.push _ _, ?_, ?_, fun b hb => ?_⟩
  · refine Wk.of (Walks.range hh s.heap.objs.size a 1 (b - a).toNat) (by simp) (fun i v d hp hd => range_items a b _ rfl hp hd) (fun b hb => ?_) (fun i h st => ⟨_, _, _, st, rfl, rfl, by decide +kernel⟩)
    simp at hb; exact .inl hb
  · refine ⟨?_, fun b o _ _ e => e⟩
    have e1 : (if a < b then b - a else 0) = ((b - a).toNat : Int) := by split <;> lia
    rw [e1]
    have := Heap.get?_push_size s.heap (o := { cls := .type "range_iterator", data := .fields #[rawInt a, rawInt ((b - a).toNat : Int), rawInt 1] }) rfl
    simpa using this
  · simp at hb; subst hb; exact Grow.fresh (Nat.le_refl _)
end
end Mine
end

section
open PySem PySem.W PyProof.Rows

namespace Mine
set_option tactic.hygienic false

theorem lookup_mapv {α : Type} (g : Str → α → α) : ∀ (l : List (Str × α)) (y : Str), (l.map fun p => (p.1, g p.1 p.2)).lookup y = (l.lookup y).map (g y)
  | [], _ => rfl
  | (n, k) :: r, y => by
    simp only [List.map_cons, List.lookup_cons]
    by_cases h : y = n
    · subst h; simp
    · have : (y == n) = false := beq_eq_false_iff_ne.mpr h
      rw [this]; exact lookup_mapv g r y

theorem relabel_lookup (cs : Scope) (env : Env) (hk : env.scope.kind = .function) (y : Str) :
    (relabel cs env).names.lookup y = (cs.names.lookup y).map fun k => if k = .free ∧ env.kindOf y = some .cell then .cell else k := by
  have e : (relabel cs env).names = cs.names.map fun p => (p.1, if p.2 = .free ∧ env.kindOf p.1 = some .cell then NameKind.cell else p.2) := by
    unfold relabel
    refine List.map_congr_left fun p _ => ?_
    obtain ⟨a, b⟩ := p
    have hk' : (env.scope.kind == ScopeKind.function) = true := by rw [hk]; rfl
    simp only [hk', Bool.and_true, Bool.and_eq_true, beq_iff_eq]
    split <;> simp_all
  rw [e, lookup_mapv (fun y k => if k = .free ∧ env.kindOf y = some .cell then NameKind.cell else k)]

theorem mem_of_lookup' {α : Type} : ∀ {l : List (Str × α)} {y : Str} {k : α}, l.lookup y = some k → (y, k) ∈ l
  | (n, k') :: r, y, k, h => by
    rw [List.lookup_cons] at h
    by_cases e : y = n
    · subst e; simp at h; subst h; exact .head _
    · have : (y == n) = false := beq_eq_false_iff_ne.mpr e
      rw [this] at h; exact .tail _ (mem_of_lookup' h)

theorem closure_go (env : Env) : ∀ (l : List (Str × NameKind)) (acc : List (Str × Addr)), (∀ y ∈ l, y.2 = .free → ∃ c, env.cells.lookup y.1 = some c) → (∀ x c, acc.lookup x = some c → env.cells.lookup x = some c) →
    ∃ cl, (forIn l acc fun (x : Str × NameKind) (r : List (Str × Addr)) => (if x.2 == NameKind.free then (do let a ← cellOf env x.1; pure (ForInStep.yield ((x.1, a) :: r))) else pure (ForInStep.yield r) : Sem (ForInStep (List (Str × Addr))))) = pure cl ∧
      (∀ x c, cl.lookup x = some c → env.cells.lookup x = some c) ∧ (∀ x, (acc.lookup x).isSome = true ∨ (x, NameKind.free) ∈ l → (cl.lookup x).isSome = true)
  | [], acc, _, ha => ⟨acc, by rw [List.forIn_nil], ha, fun x hx => by rcases hx with h | h; exact h; cases h⟩
  | (n, k) :: r, acc, h, ha => by
    rw [List.forIn_cons]
    by_cases hk : k = .free
    · subst hk
      refine e1_1 (h (n, .free) (.head _) rfl) fun c hc => ?_
      have e : cellOf env n = pure c := by unfold cellOf; rw [hc]
      obtain ⟨cl, h1, h2, h3⟩ := closure_go env r ((n, c) :: acc) (fun y hy => h y (.tail _ hy)) fun x c' hx => by
        rw [List.lookup_cons] at hx
        by_cases e : x = n
        · subst e; simp at hx; subst hx; exact hc
        · have : (x == n) = false := beq_eq_false_iff_ne.mpr e
          rw [this] at hx; exact ha x c' hx
      refine ⟨cl, ?_, h2, fun x hx => h3 x ?_⟩
      · simp only [e, beq_self_eq_true, if_true, pure_bind]; exact h1
      · by_cases e : x = n
        · subst e; exact .inl (by simp [])
        · have e' : (x == n) = false := beq_eq_false_iff_ne.mpr e
          rcases hx with h | h
          · exact .inl (by rw [List.lookup_cons, e']; exact h)
          · rcases List.mem_cons.mp h with h | h
            · cases h; exact absurd rfl e
            · exact .inr h
    · have hk' : (k == NameKind.free) = false := beq_eq_false_iff_ne.mpr hk
      refine e1_3 (closure_go env r acc (fun y hy => h y (.tail _ hy)) ha) fun cl h1 h2 h3 => ?_
      refine ⟨cl, ?_, h2, fun x hx => h3 x ?_⟩
      · simp only [hk', Bool.false_eq_true, if_false, pure_bind]; exact h1
      · rcases hx with h | h
        · exact .inl h
        · rcases List.mem_cons.mp h with h | h
          · cases h; exact absurd rfl hk
          · exact .inr h

theorem closure_ok {cs : Scope} {env : Env} (h : ∀ y ∈ cs.names, y.2 = .free → ∃ c, env.cells.lookup y.1 = some c) :
    ∃ cl, closureFor cs env = pure cl ∧ ∀ x c, (x, NameKind.free) ∈ cs.names → env.cells.lookup x = some c → cl.lookup x = some c := by
  refine e1_3 (closure_go env cs.names [] h (fun x c hx => by cases hx)) fun cl h1 h2 h3 => ?_
  refine ⟨cl, ?_, fun x c hx hc => ?_⟩
  · unfold closureFor
    have : ∀ (x : List (Str × Addr)), (pure x : Sem (List (Str × Addr))) >>= (fun r => pure r) = pure x := fun x => rfl
    refine Eq.trans ?_ (this cl)
    rw [← h1]
  · have := h3 x (.inr hx)
    cases e : cl.lookup x with
    | none => rw [e] at this; cases this
    | some c' => rw [h2 x c' e] at hc; exact hc

theorem compB_of {sc cs : Scope} {x : Str} (h : compB sc cs x = true) : cs.kind = .function ∧ (∀ y ∈ cs.names, y.2 ≠ .cell) ∧ (∀ y ∈ cs.names, y.2 = .local → (y.1 = x ∨ y.1 = Str.ofString ".0") ∧ cs.names.lookup y.1 = some .local) ∧
    cs.names.lookup x = some .local ∧ ∀ y ∈ cs.names, y.2 = .free → sc.names.lookup y.1 = some .cell := by
  unfold compB at h
  simp only [Bool.and_eq_true, beq_iff_eq, List.all_eq_true, Bool.or_eq_true, bne_iff_ne, ne_eq] at h
  refine l5 (h) fun h1 h2 h3 h4 h5 => ?_
  exact ⟨h1, h2, fun y hy e => (h3 y hy).resolve_left (fun z => z e), h4, fun y hy e => (h5 y hy).resolve_left (fun z => z e)⟩

section
variable {prog : Program} {w : World} {W : Wh} {H : Heap} {C : String → List PyData → Option PyData} {K : PyData → PyData → PyData → Option PyData} {n : Nat}

set_option tactic.hygienic true in
theorem comp_St {env : Env} {ex own : List Addr} {ρ : Ro} {h0 h : Heap} {σ : Str → Option Value} {cs : Scope} {v : String} {cl : List (Str × Addr)} {D Cc : Addr} {m : Str → Option Value} {u : Value} {d : PyData}
    (hk0 : env.scope.kind = .function) (N : Names W.cc env ex own ρ h0 σ) (hB : compB env.scope cs (Str.ofString v) = true) (hcl : ∀ x c, (x, NameKind.free) ∈ cs.names → env.cells.lookup x = some c → cl.lookup x = some c)
    (hk : ∀ b o, (∀ vs, o.data ≠ .fields vs) → h0.get? b = some o → h.get? b = some o) (gH : Grow H h) (hD : h0.get? D = none) (hC : h0.get? Cc = none) (hm : h.Ns Cc m) (hmx : m (Str.ofString v) = some u)
    (hu : Rep h (D :: (own ++ ex)) u d) : StE W H (compEnvC cs cl Cc env) ex (D :: own) (upd ρ v (.val d)) h := by
  refine e0_5 (compB_of hB) fun b1 b2 b3 b4 b5 => ?_
  have hkeep : ∀ b (o : Obj), (∃ xs n, o.data = .seq xs n) → h0.get? b = some o → h.get? b = some o := fun b o ⟨xs, n, q⟩ e => hk b o (fun vs z => by rw [q] at z; cases z) e
  have kloc : ∀ y, (compEnvC cs cl Cc env).kindOf y = some .local → y = Str.ofString v ∨ y = Str.ofString ".0" := by
    intro y hy
    have e := relabel_lookup cs env hk0 y
    have hy' : (relabel cs env).names.lookup y = some .local := hy
    rw [e] at hy'
    cases hl : cs.names.lookup y with
    | none => rw [hl] at hy'; cases hy'
    | some k =>
      rw [hl] at hy'
      simp only [Option.map_some, Option.some.injEq] at hy'
      split at hy'
      · cases hy'
      · subst hy'; exact (b3 _ (mem_of_lookup' hl) rfl).1
  have kcell : ∀ y, (compEnvC cs cl Cc env).kindOf y = some .cell → (y, NameKind.free) ∈ cs.names ∧ env.kindOf y = some .cell := by
    intro y hy
    have e := relabel_lookup cs env hk0 y
    have hy' : (relabel cs env).names.lookup y = some .cell := hy
    rw [e] at hy'
    cases hl : cs.names.lookup y with
    | none => rw [hl] at hy'; cases hy'
    | some k =>
      rw [hl] at hy'
      simp only [Option.map_some, Option.some.injEq] at hy'
      split at hy'
      · rename_i hf; rw [hf.1] at hl; exact ⟨mem_of_lookup' hl, hf.2⟩
      · subst hy'; exact absurd rfl (b2 _ (mem_of_lookup' hl))
  have xloc : (compEnvC cs cl Cc env).kindOf (Str.ofString v) = some .local := by
    have e := relabel_lookup cs env hk0 (Str.ofString v)
    show (relabel cs env).names.lookup _ = _
    rw [e, b4]; rfl
  refine ⟨gH, fun y => if y = Str.ofString v then some u else if (compEnvC cs cl Cc env).kindOf y = some .cell then σ y else m y, ⟨m, hm, fun y hy => ?_⟩, fun y hy => ?_, fun y hy => ?_⟩
  · by_cases e : y = Str.ofString v
    · subst e; simp [hmx]
    · simp only [if_neg e]
      rw [if_neg (by rw [hy]; intro z; cases z)]
  · have hne : y ≠ Str.ofString v := by rintro rfl; rw [xloc] at hy; cases hy
    refine e0_2 (kcell y hy) fun h1 h2 => ?_
    obtain ⟨c, k1, o, k2, k3⟩ := N.2.1 y h2
    refine ⟨c, hcl y c h1 k1, o, hk _ _ (fun vs z => by rw [k3] at z; cases z) k2, ?_⟩
    simp only [if_neg hne, hy, if_true]; exact k3
  · by_cases e : y = v
    · subst e
      simp only [upd, if_pos]
      exact ⟨u, rfl, hu⟩
    · have e' : Str.ofString y ≠ Str.ofString v := fun z => e (ofString_inj z)
      simp only [upd, if_neg e, if_neg e']
      have hcell : (compEnvC cs cl Cc env).kindOf (Str.ofString y) = some .cell := by
        rcases hy.2 with z | z
        · rcases kloc _ z with q | q
          · exact absurd q e'
          · exact absurd (ofString_inj q) hy.1
        · exact z
      simp only [hcell, if_true]
      have V := N.2.2 y ⟨hy.1, .inr (kcell _ hcell).2⟩
      have more : ∀ {u' : Value} {d' : PyData}, Rep h0 (own ++ ex) u' d' → Rep h (D :: (own ++ ex)) u' d' := fun r =>
        (r.more fun o _ q => by exact nsm hD q).keep fun b o _ q e => hkeep b o q e
      have moreA : ∀ {u' : List Value} {d' : List PyData}, RepAll h0 (own ++ ex) u' d' → RepAll h (D :: (own ++ ex)) u' d' := fun r =>
        (r.more fun o _ q => by exact nsm hD q).keep fun b o _ q e => hkeep b o q e
      generalize ρ y = a at V ⊢
      cases a with
      | no => trivial
      | val d' => obtain ⟨u', e1, r⟩ := V; exact ⟨u', e1, more r⟩
      | own ds =>
        refine e3_5 (V) fun b vs k e1 hm1 g r l => ?_
        exact ⟨b, vs, k, e1, .tail _ hm1, hkeep _ _ ⟨_, _, rfl⟩ g, moreA r, l⟩
      | cmp k =>
        obtain ⟨b, e1, dx, hs, t, nn, u', g, gd, _, r⟩ := V
        refine ⟨b, e1, dx, hs, t, nn, u', hk _ _ (by intro vs q; cases q) g, hk _ _ (by intro vs q; cases q) gd, ?_, more r⟩
        rintro rfl; exact nsm hC gd

set_option tactic.hygienic true in
theorem compD_all {f : PyData → Option (Option PyData)} : ∀ {ds out : List PyData}, compD f ds = some out → (∀ d ∈ ds, (f d).isSome = true) ∧ out = ds.filterMap fun d => (f d).join
  | [], out, h => by simp [compD_nil] at h; subst h; exact ⟨fun _ h => (nomatch h), rfl⟩
  | d :: ds, out, h => by
    simp only [compD_cons] at h
    split at h
    · exact nos h
    · rename_i e
      refine e0_2 (compD_all h) fun h1 h2 => ?_
      refine ⟨fun y hy => ?_, ?_⟩
      · rcases List.mem_cons.mp hy with rfl | hy
        · rw [e]; rfl
        · exact h1 y hy
      · rw [List.filterMap_cons, e]; simpa using h2
    · rename_i y e
      simp only [Option.map_eq_some_iff] at h
      refine e1_2 (h) fun out' h' ze1 => ?_; subst ze1
      refine e0_2 (compD_all h') fun h1 h2 => ?_
      refine ⟨fun z hz => ?_, ?_⟩
      · rcases List.mem_cons.mp hz with rfl | hz
        · rw [e]; rfl
        · exact h1 z hz
      · rw [List.filterMap_cons, e]; simpa using h2

theorem compD_len {f : PyData → Option (Option PyData)} {ds out : List PyData} (h : compD f ds = some out) : out.length ≤ ds.length := by
  rw [(compD_all h).2]; exact List.length_filterMap_le _ _

/-- the tests of a comprehension -/
theorem ifs_ok {cond : X} {ifs : List Expr} {A : Around} {env : Env} {ex own : List Addr} {ρ : Ro} {s : Shared} {b : Bool} {Q : Bool → Shared → Prop} {E : Value → Shared → Prop} (c : Ctxt W H n A env ex own ρ s)
    (hc : (match ifs with | [] => (match cond with | .nil => true | _ => false) | [i] => chX env.scope cond i | _ => false) = true) (hX : XT prog w W H C K n cond) (hv : evT C K ρ cond (evX C K ρ cond) = some b)
    (hQ : ∀ h' tk, Grow s.heap h' → Q b { s with heap := h', toks := tk }) :
    wpAny (model prog w) A (forIn ifs true fun c r => if r = true then do let ok ← isTrue c env (eval c env); pure (ForInStep.yield ok) else pure (ForInStep.yield r)) Q E s := by
  cases ifs with
  | nil =>
    cases cond <;> first | exact absurd hc Bool.false_ne_true | skip
    obtain rfl := Option.some.inj hv
    rw [List.forIn_nil]; exact wpAny_pure (hQ _ _ (Grow.refl _))
  | cons i r =>
    cases r with
    | cons j r => exact absurd hc Bool.false_ne_true
    | nil =>
      rw [List.forIn_cons]
      refine wpAny_bind ?_
      simp only [if_true]
      refine wpAny_bind (hX A env ex own ρ s i b _ _ c hc hv fun h' tk g => wpAny_pure ?_)
      show wpAny _ _ (forIn [] _ _) _ _ _
      rw [List.forIn_nil]; exact wpAny_pure (hQ _ _ g)

/-- one turn's value, as the evaluator tells it -/
noncomputable def turnD (C : String → List PyData → Option PyData) (K : PyData → PyData → PyData → Option PyData) (ρ : Ro) (v : String) (elt cond : X) (d : PyData) : Option (Option PyData) := match evT C K (upd ρ v (.val d)) cond (evX C K (upd ρ v (.val d)) cond) with
  | none => none
  | some false => some none
  | some true => match evX C K (upd ρ v (.val d)) elt with | none => none | some y => some (some y)

theorem comp_mid {elt cond : X} {v : String} {el it : Expr} {px : Pos} {ifs : List Expr} {cs : Scope} {cpos : Pos} {cl : List (Str × Addr)} {A : Around} {env : Env} {ex own : List Addr} {ρ : Ro} {s₂ : Shared} {E : Value → Shared → Prop}
    {RR : Value → Addr → Result → Shared → Prop} {I : Addr} {wr : List Addr} {ds out : List PyData} {St : Nat → Heap → Prop}
    (c : Ctxt W H n A env ex own ρ s₂) (hB : compB env.scope cs (Str.ofString v) = true) (hcl : ∀ x c, (x, NameKind.free) ∈ cs.names → env.cells.lookup x = some c → cl.lookup x = some c)
    (hel : chX (relabelS cs env.scope) elt el = true) (hif : (match ifs with | [] => (match cond with | .nil => true | _ => false) | [i] => chX (relabelS cs env.scope) cond i | _ => false) = true)
    (Wt : Wk prog w A s₂.heap (own ++ ex) I wr ds St) (st0 : St 0 s₂.heap) (hwr : ∀ b ∈ wr, H.get? b = none) (hds : ds.length ≤ sizeLine)
    (xe : XE prog w W H C K n elt) (xt : XT prog w W H C K n cond)
    (hout : compD (turnD C K ρ v elt cond) ds = some out)
    (hRR : ∀ D Cc h' tk m', s₂.heap.get? D = none → s₂.heap.get? Cc = none → D ≠ Cc → h'.Ns Cc m' → (∃ vs nn, h'.get? D = some { cls := .type "list", data := .seq vs nn } ∧ RepAll h' (D :: (own ++ ex)) vs.toList out) →
      (∀ b o, b ∉ wr → s₂.heap.get? b = some o → h'.get? b = some o) → RR (.ref D) Cc (.ok .next) { s₂ with heap := h', toks := tk }) :
    wpAny (model prog w) A (newList []) (fun acc s₃ => wpAny (model prog w) A (newFunctionEnv cs env.globals cl [] env.qual none .none (some env)) (fun cenv s₄ =>
      codeAny (model prog w) A (.compStart (.ListComp el [⟨.Name (Str.ofString v) px, it, ifs, 0⟩] cs cpos) 0 (.ref I) acc { cenv with scope := relabel cs env }) (RR acc cenv.locals) s₄) E s₃) E s₂ := by
  refine e0_5 (compB_of hB) fun b1 b2 b3 b4 b5 => ?_
  have hk0 := c.eo.kind
  refine wpAny_newObj_type (wpAny_newFunctionEnv b2 (by intro y hy; simp at hy) (fun h₁ hns₁ hsb₁ => ?_) b1)
  dsimp only at hns₁ hsb₁ ⊢
  generalize hH2 : s₂.heap.push { cls := .type "list", dict := none, data := .seq ([] : List Value).toArray } = H2 at hns₁ hsb₁ ⊢
  have hC : H2.objs.size = s₂.heap.objs.size + 1 := by rw [← hH2, Heap.size_push]
  generalize hDe : s₂.heap.objs.size = D at *
  generalize hCe : H2.objs.size = Cc at *
  have hDC : D ≠ Cc := by lia
  have fresh : ∀ a, D ≤ a → s₂.heap.get? a = none := fun a ha => Grow.fresh (by lia)
  have hDn : s₂.heap.get? D = none := fresh _ (Nat.le_refl _)
  have hCn : s₂.heap.get? Cc = none := fresh _ (by lia)
  have old : ∀ b o, s₂.heap.get? b = some o → h₁.get? b = some o := fun b o e => hsb₁.extBut b o (by rintro rfl; exact nsm hCn e) (Heap.get?_push_of_some _ (hH2 ▸ Heap.get?_push_of_some _ e))
  have hacc : h₁.get? D = some { cls := .type "list", data := .seq #[] } := by
    refine hsb₁.extBut _ _ hDC (Heap.get?_push_of_some _ ?_)
    rw [← hH2, ← hDe]; exact Heap.get?_push_size _ rfl
  refine e0_2 (compD_all hout) fun hsome hout' => ?_
  have wrD : ∀ b ∈ wr, b ≠ D ∧ b ≠ Cc := fun b hb => by
    refine e2_2 (Wt.flds 0 _ st0 b hb) fun o vs e zz => ?_
    exact ⟨(by rintro rfl; exact nsm hDn e), (by rintro rfl; exact nsm hCn e)⟩
  have st1 : St 0 h₁ := Wt.frame 0 _ _ st0 (fun b o _ _ e => old b o e) fun b hb o e => old b o e
  have loop : ∀ s₃ : Shared, s₃ = { s₂ with heap := h₁, toks := s₂.toks + ([] : List (Str × Value)).length } →
      codeAny (model prog w) A (.compLoop (.ListComp el [⟨.Name (Str.ofString v) px, it, ifs, 0⟩] cs cpos) 0 (.ref I) (.ref D) (compEnvC cs cl Cc env)) (RR (.ref D) Cc) s₃ := by
    rintro s₃ rfl
    refine codeAny_compLoop_tests
      (fun k s' => ∃ h tk m' i vs nn, s' = { s₂ with heap := h, toks := tk } ∧ St i h ∧ h.get? D = some { cls := .type "list", data := .seq vs nn } ∧ h.Ns Cc m' ∧ i ≤ ds.length ∧ k = ds.length + 1 - i ∧
        RepAll h (D :: (own ++ ex)) vs.toList ((ds.take i).filterMap fun d => (turnD C K ρ v elt cond d).join) ∧ (∀ b o, b ∉ wr → s₂.heap.get? b = some o → h.get? b = some o)) ?_ (ds.length + 1)
      ⟨h₁, _, _, 0, #[], 0, rfl, st1, hacc, hns₁, Nat.zero_le _, rfl, .nil, fun b o _ e => old b o e⟩
    rintro k s' ⟨h, tk, m', i, vs, nn, rfl, hst, hD, hn, hi, rfl, hr, hk⟩
    by_cases hlt : i < ds.length
    · have hd : ds[i]? = some ds[i] := List.getElem?_eq_getElem hlt
      refine Wt.item i ds[i] { s₂ with heap := h, toks := tk } _ _ hd hst fun u h' tk' hu hst' hk' => ?_
      have hD' : h'.get? D = some { cls := .type "list", data := .seq vs nn } := hk' _ _ (fun hb => (wrD _ hb).1 rfl) hD
      have hn' : h'.Ns Cc m' := hn.at' fun o e => hk' _ _ (fun hb => (wrD _ hb).2 rfl) e
      have xloc : (compEnvC cs cl Cc env).kindOf (Str.ofString v) = some .local := by
        have e := relabel_lookup cs env hk0 (Str.ofString v)
        show (relabel cs env).names.lookup _ = _
        rw [e, b4]; rfl
      refine wpAny_assign_Name (wpAny_storeName_local xloc hn' (fun h₂ hn₂ hs₂ => ?_) (by show (cs.kind == .class || (cs.kind == .module && _)) = false; rw [b1]; rfl))
      have hD₂ : h₂.get? D = some { cls := .type "list", data := .seq vs nn } := hs₂.extBut _ _ hDC hD'
      have keep₂ : ∀ b o, b ∉ wr → s₂.heap.get? b = some o → h₂.get? b = some o := fun b o hb e => hs₂.extBut b o (by rintro rfl; exact nsm hCn e) (hk' b o hb (hk b o hb e))
      have hst₂ : St (i + 1) h₂ := Wt.frame _ _ _ hst' (fun b o hx q e => keep₂ b o (fun hb => by
        refine e2_2 (Wt.flds 0 _ st0 b hb) fun o' vs' e' q' => ?_
        rw [e] at e'; cases e'
        refine e2_1 (q) fun xs mm q => ?_
        rw [q] at q'; cases q') e) fun b hb o e => hs₂.extBut b o (wrD b hb).2 e
      -- the item in the comprehension's frame
      have hu' : Rep h₂ (D :: (own ++ ex)) u ds[i] := by
        refine (hu (D :: (own ++ ex)) fun a ha => ?_).keep fun b o hb q e => hs₂.extBut b o ?_ e
        · rcases List.mem_cons.mp ha with rfl | ha
          · exact ⟨.inr hDn, _, hD⟩
          · refine e1_1 (c.old a ha) fun o e => ?_
            refine ⟨.inl ha, ?_⟩
            by_cases hb : a ∈ wr
            · obtain ⟨o', vs', e', _⟩ := Wt.flds i _ hst a hb; exact ⟨o', e'⟩
            · exact ⟨o, hk a o hb e⟩
        · rintro rfl
          refine e3_3 (hn') fun o' es ep g' q' zz => ?_
          rw [e] at g'; cases g'
          refine e2_1 (q) fun xs mm q => ?_
          rw [q] at q'; cases q'
      have nofld : ∀ b o, (∀ vs, o.data ≠ .fields vs) → s₂.heap.get? b = some o → h₂.get? b = some o := fun b o hf e => keep₂ b o (fun hb => by
        refine e2_2 (Wt.flds 0 _ st0 b hb) fun o' vs' e' q' => ?_
        rw [e] at e'; cases e'
        exact hf _ q') e
      have gH : Grow H h₂ := fun b o e => keep₂ b o (fun hb => by rw [hwr b hb] at e; cases e) (c.st.grow b o e)
      refine e1_1 (c.st.names) fun σ N => ?_
      have ctx : Ctxt W H n A (compEnvC cs cl Cc env) ex (D :: own) (upd ρ v (.val ds[i])) { s₂ with heap := h₂, toks := tk' + 1 } := {
        room := c.room
        eo := ⟨b1, c.eo.g, c.eo.b⟩
        st := comp_St hk0 N hB hcl nofld gH hDn hCn hn₂ (by simp) hu'
        old := fun a ha => by
          rcases List.mem_cons.mp ha with rfl | ha
          · exact ⟨_, hD₂⟩
          · refine e1_1 (c.old a ha) fun o e => ?_
            by_cases hb : a ∈ wr
            · obtain ⟨o', vs', e', _⟩ := Wt.flds (i+1) _ hst₂ a hb; exact ⟨o', e'⟩
            · exact ⟨o, keep₂ a o hb e⟩ }
      have hR₂ : RepAll h₂ (D :: (own ++ ex)) vs.toList ((ds.take i).filterMap fun d => (turnD C K ρ v elt cond d).join) := hr.keep fun b o hb q e => by
        have hbw : b ∉ wr := fun hbw => by
          refine e2_2 (Wt.flds i _ hst b hbw) fun o' vs' e' q' => ?_
          rw [e] at e'; cases e'
          refine e2_1 (q) fun xs mm q => ?_
          rw [q] at q'; cases q'
        have e1 := hk' b o hbw e
        refine hs₂.extBut b o ?_ e1
        rintro rfl
        refine e3_3 (hn') fun o' es ep g' q' zz => ?_
        rw [e1] at g'; cases g'
        refine e2_1 (q) fun xs mm q => ?_
        rw [q] at q'; cases q'
      have htk : (ds.take (i + 1)).filterMap (fun d => (turnD C K ρ v elt cond d).join) = (ds.take i).filterMap (fun d => (turnD C K ρ v elt cond d).join) ++ (match (turnD C K ρ v elt cond ds[i]).join with | none => [] | some y => [y]) := by
        rw [List.take_succ_eq_append_getElem hlt, List.filterMap_append]
        congr 1
        simp only [List.filterMap_cons, List.filterMap_nil]
        split <;> simp_all
      have hsm := hsome ds[i] (List.getElem_mem hlt)
      have vsz : vs.size ≤ sizeLine := by
        have e1 := hr.length
        have e2 : ((ds.take i).filterMap fun d => (turnD C K ρ v elt cond d).join).length ≤ (ds.take i).length := List.length_filterMap_le _ _
        rw [List.length_take] at e2
        have e3 : vs.toList.length = vs.size := by simp
        lia
      cases hcnd : evT C K (upd ρ v (.val ds[i])) cond (evX C K (upd ρ v (.val ds[i])) cond) with
      | none => unfold turnD at hsm; rw [hcnd] at hsm; cases hsm
      | some b =>
        refine ifs_ok (C := C) (K := K) ctx hif xt hcnd fun h₃ tk₃ g₃ => ?_
        have hst₃ : St (i + 1) h₃ := Wt.frame _ _ _ hst₂ (fun b o hx q e => g₃ _ _ (Wt.kept _ _ hst₂ b o hx q e)) fun b hb o e => g₃ _ _ e
        cases b with
        | false =>
          simp only [Bool.false_eq_true, if_false]
          refine ⟨ds.length + 1 - (i + 1), by lia, h₃, tk₃, _, i + 1, vs, nn, rfl, hst₃, g₃ _ _ hD₂, hn₂.keeps g₃, by lia, rfl, ?_, fun b o hb e => g₃ _ _ (keep₂ b o hb e)⟩
          have : turnD C K ρ v elt cond ds[i] = some none := by unfold turnD; rw [hcnd]
          rw [htk, this]
          simpa using hR₂.grow g₃
        | true =>
          simp only [if_true]
          cases hev : evX C K (upd ρ v (.val ds[i])) elt with
          | none => unfold turnD at hsm; rw [hcnd, hev] at hsm; cases hsm
          | some y =>
            refine xe A (compEnvC cs cl Cc env) ex (D :: own) (upd ρ v (.val ds[i])) { s₂ with heap := h₃, toks := tk₃ } el y _ _ (ctx.up W H n g₃) hel hev fun yv h₄ tk₄ g₄ ry => ?_
            refine wpAny_list_append_plain (items := vs) (hsz := vsz) ⟨nn, g₄ _ _ (g₃ _ _ hD₂)⟩ fun h₅ hl₅ hs₅ => ?_
            refine e1_1 (hl₅) fun nn' hl₅ => ?_
            have keep5 : ∀ b o, b ∉ (D :: (own ++ ex)) → (∃ xs n, o.data = .seq xs n) → h₄.get? b = some o → h₅.get? b = some o := fun b o hb _ e => hs₅.extBut b o (by rintro rfl; exact hb (.head _)) e
            refine ⟨ds.length + 1 - (i + 1), by lia, h₅, tk₄, _, i + 1, vs.push yv, nn', rfl, ?_, hl₅, (hn₂.keeps (g₃.trans g₄)).sameBut hs₅ (Ne.symm hDC), by lia, rfl, ?_, fun b o hb e => hs₅.extBut b o (by rintro rfl; exact nsm hDn e) (g₄ _ _ (g₃ _ _ (keep₂ b o hb e)))⟩
            · exact Wt.frame _ _ _ hst₃ (fun b o hx q e => hs₅.extBut b o (by rintro rfl; exact nsm hDn e) (g₄ _ _ (Wt.kept _ _ hst₃ b o hx q e))) fun b hb o e => hs₅.extBut b o (wrD b hb).1 (g₄ _ _ e)
            · have : turnD C K ρ v elt cond ds[i] = some (some y) := by unfold turnD; rw [hcnd, hev]
              rw [htk, this]
              rw [Array.toList_push]
              exact ((hR₂.grow (g₃.trans g₄)).keep keep5).append (.one (ry.keep keep5))
    · have hin : i = ds.length := by lia
      subst hin
      refine Wt.done { s₂ with heap := h, toks := tk } _ _ hst fun h' tk' hk' => ?_
      have ftk : ds.take ds.length = ds := List.take_length
      rw [ftk, ← hout'] at hr
      refine hRR D Cc h' tk' m' hDn hCn hDC (hn.at' fun o e => hk' _ _ (fun hb => (wrD _ hb).2 rfl) e) ⟨vs, nn, hk' _ _ (fun hb => (wrD _ hb).1 rfl) hD, hr.keep fun b o hb q e => hk' b o (fun hbw => by
        refine e2_2 (Wt.flds _ _ hst b hbw) fun o' vs' e' q' => ?_
        rw [e] at e'; cases e'
        refine e2_1 (q) fun xs mm q => ?_
        rw [q] at q'; cases q') e⟩ fun b o hb e => hk' b o hb (hk b o hb e)
  exact codeAny_compStart_list (loop _ rfl) (Wt.self 0 _ _ _ st1 (loop _ rfl))
end
end Mine
end

section
open PySem PySem.W PyProof.Rows

namespace Mine
set_option tactic.hygienic false
section
variable {prog : Program} {w : World} {W : Wh} {H : Heap} {C : String → List PyData → Option PyData} {K : PyData → PyData → PyData → Option PyData} {n : Nat}

/-- a comprehension over what is read, whatever is done with its list -/
theorem comp_any {elt cond : X} {v : String} {el it : Expr} {px : Pos} {ifs : List Expr} {cs : Scope} {cpos pos : Pos} {A : Around} {env : Env} {ex own : List Addr} {ρ : Ro} {s : Shared} {Q E : Value → Shared → Prop}
    {use : Option (Value → Sem Unit)} {ds out : List PyData} (c : Ctxt W H n A env ex own ρ s) (hB : compB env.scope cs (Str.ofString v) = true) (hset : ∀ x, foldedSetIterable it env x = pure x)
    (hel : chX (relabelS cs env.scope) elt el = true) (hif : (match ifs with | [] => (match cond with | .nil => true | _ => false) | [i] => chX (relabelS cs env.scope) cond i | _ => false) = true)
    (hds : ds.length ≤ sizeLine) (xe : XE prog w W H C K n elt) (xt : XT prog w W H C K n cond) (hout : compD (turnD C K ρ v elt cond) ds = some out)
    (hsrc : ∀ (P E' : Value → Shared → Prop), (∀ it' h' tk wr I St, it' = .ref I → Grow s.heap h' → Wk prog w A h' (own ++ ex) I wr ds St → St 0 h' → (∀ b ∈ wr, s.heap.get? b = none) → P it' { s with heap := h', toks := tk }) →
      wpAny (model prog w) A (eval it env) (fun x s₁ => wpAny (model prog w) A (pyIter x) P E' s₁) E' s)
    (hfin : ∀ D Cc h' tk m', s.heap.get? Cc = none → Grow s.heap h' → h'.Ns Cc m' → Rep h' (own ++ ex) (.ref D) (.list out) → D ≠ Cc →
      compPost (model prog w) A E use Q (.ref D) Cc (.ok .next) { s with heap := h', toks := tk }) :
    wpAny (model prog w) A (comprehension (.ListComp el [⟨.Name (Str.ofString v) px, it, ifs, 0⟩] cs cpos) cs env pos (newList []) false (eval it env) use) Q E s := by
  refine e0_5 (compB_of hB) fun b1 b2 b3 b4 b5 => ?_
  refine e1_1 (c.st.names) fun σ0 N0 => ?_
  obtain ⟨cl, hclos, hcl⟩ := closure_ok (cs := cs) (env := env) fun y hy e => by
    refine e1_2 (N0.2.1 y.1 (b5 y hy e)) fun cc h1 zz => ?_
    exact ⟨cc, h1⟩
  refine wpAny_comprehension_free rfl hset hclos b1 (fun y hy e => (b3 y hy e).2) ?_
  refine hsrc _ _ fun it' h' tk wr I St hI g Wt st0 hwr => ?_
  subst hI
  refine comp_mid (RR := fun acc Cc => compPost (model prog w) A E use Q acc Cc) (c.up W H n g) hB hcl hel hif Wt st0 (fun b hb => ?_) hds xe xt hout fun D Cc h'' tk' m' hD hC hDC hn hl hk => ?_
  · cases e : H.get? b with
    | none => rfl
    | some o => have := c.st.grow b o e; rw [hwr b hb] at this; cases this
  · refine e2_2 (hl) fun vs nn e r => ?_
    have fr : ∀ a, h'.get? a = none → s.heap.get? a = none := fun a ha => by
      cases e : s.heap.get? a with
      | none => rfl
      | some o => rw [g a o e] at ha; cases ha
    refine hfin D Cc h'' tk' m' (fr _ hC) (fun b o e => hk b o (fun hb => by rw [hwr b hb] at e; cases e) (g b o e)) hn ?_ hDC
    have hDn : D ∉ own ++ ex := fun hm => by
      refine e1_1 (c.old D hm) fun o e => ?_
      rw [fr _ hD] at e; cases e
    refine .list (vs := vs.toList) (n := nn) (by simpa using e) hDn ?_ (r.less fun a m => .tail _ m)
    exact Nat.le_trans (compD_len hout) hds

theorem eval_ListComp' (el t it : Expr) (ifs : List Expr) (cs : Scope) (p : Pos) (env : Env) : ∃ pos, eval (.ListComp el [⟨t, it, ifs, 0⟩] cs p) env = comprehension (.ListComp el [⟨t, it, ifs, 0⟩] cs p) cs env pos (newList []) false (eval it env) none := ⟨_, rfl⟩

theorem notSet_of {it : Expr} {env : Env} (h : notSet it = true) : ∀ x, foldedSetIterable it env x = pure x := by
  intro x
  cases it <;> first | rfl | cases h

/-- the source of a comprehension -/
theorem src_ok {src : X} {it : Expr} {A : Around} {env : Env} {ex own : List Addr} {ρ : Ro} {s : Shared} {x : PyData} {ds : List PyData} (c : Ctxt W H n A env ex own ρ s) (hc : chX env.scope src it = true) (xs : XE prog w W H C K n src)
    (hx : evX C K ρ src = some x) (hd : itemsD x = some ds) (P E' : Value → Shared → Prop)
    (hP : ∀ it' h' tk wr I St, it' = .ref I → Grow s.heap h' → Wk prog w A h' (own ++ ex) I wr ds St → St 0 h' → (∀ b ∈ wr, s.heap.get? b = none) → P it' { s with heap := h', toks := tk }) :
    wpAny (model prog w) A (eval it env) (fun x s₁ => wpAny (model prog w) A (pyIter x) P E' s₁) E' s := by
  refine xs A env ex own ρ s it x _ _ c hc hx fun u h' tk g ru => ?_
  refine wpAny_mono (iter_ok (s := { s with heap := h', toks := tk }) (E := E') c.room.handled ru hd (c.old.up g)) (fun itv s₂ hi => ?_) fun _ _ e => e
  refine e4_6 (hi) fun I wr St h2 e ze26 g2 Wt st0 hwr => ?_; subst ze26
  rw [e]
  refine hP _ h2 _ wr I St rfl (g.trans g2) Wt st0 fun b hb => ?_
  cases e : s.heap.get? b with
  | none => rfl
  | some o => have := g b o e; rw [hwr b hb] at this; cases this

theorem rep_size {h : Heap} {ex : List Addr} {v : Value} {x : PyData} {ds : List PyData} (r : Rep h ex v x) (hd : itemsD x = some ds) : ds.length ≤ sizeLine := by
  cases r with
  | list _ _ l _ => cases hd; exact l
  | tuple _ _ l _ => cases hd; exact l
  | _ => exact nos hd

/-- the end of a comprehension whose list is a value -/
theorem post_none {A : Around} {env : Env} {ex own : List Addr} {s : Shared} {out : List PyData} {Q E : Value → Shared → Prop} (hQ : Post s (own ++ ex) (.list out) Q) :
    ∀ D Cc h' tk m', s.heap.get? Cc = none → Grow s.heap h' → h'.Ns Cc m' → Rep h' (own ++ ex) (.ref D) (.list out) → D ≠ Cc → compPost (model prog w) A E none Q (.ref D) Cc (.ok .next) { s with heap := h', toks := tk } := by
  intro D Cc h' tk m' hC g hn r hDC
  refine ⟨m', hn, fun h'' hs => hQ _ h'' tk (fun b o e => hs.extBut b o (by rintro rfl; exact nsm hC e) (g b o e)) (r.keep fun b o hb q e => hs.extBut b o ?_ e)⟩
  rintro rfl
  refine e3_3 (hn) fun o' es ep g' q' zz => ?_
  rw [e] at g'; cases g'
  refine e2_1 (q) fun xs mm q => ?_
  rw [q] at q'; cases q'

/-- what evX says of a comprehension -/
theorem ev_comp {ρ : Ro} {elt cond src : X} {v : String} {d : PyData} (h : evX C K ρ (.comp elt v src cond) = some d) : ∃ x ds out, evX C K ρ src = some x ∧ itemsD x = some ds ∧ compD (turnD C K ρ v elt cond) ds = some out ∧ d = .list out := by
  (first | rw [evX_nil] at h | rw [evX_var] at h | rw [evX_int] at h | rw [evX_str] at h | rw [evX_bool] at h | rw [evX_bin] at h | rw [evX_neg] at h | rw [evX_cmp] at h | rw [evX_bop] at h | rw [evX_not] at h | rw [evX_ite] at h | rw [evX_list] at h | rw [evX_tup] at h | rw [evX_idx] at h | rw [evX_slc] at h | rw [evX_comp] at h | rw [evX_compR] at h | rw [evX_call] at h | rw [evX_bi] at h | rw [evX_meth] at h | rw [evX_isBytes] at h | rw [evX_mapF] at h | rw [evX_cmpK] at h | rw [evX_cmpV] at h | rw [evX_keysOf] at h | rw [evX_ownLast] at h | rw [evX_ownLen] at h | rw [evX_ownNotIn] at h | rw [evX_ownSorted] at h)
  first | refine opND h fun x hx h => ?_ | refine opNL h fun x hx h => ?_
  · skip
    first | refine opND h fun ds hds h => ?_ | refine opNL h fun ds hds h => ?_
    · skip
      first | refine opND h fun out hout h => ?_ | refine opNL h fun out hout h => ?_
      · skip
        cases h
        exact ⟨x, ds, out, hx, hds, hout, rfl⟩
theorem ev_compR {ρ : Ro} {elt : X} {v : String} {k : Nat} {d : PyData} (h : evX C K ρ (.compR elt v k) = some d) : ∃ out, compD (turnD C K ρ v elt .nil) ((List.range k).map fun i => .int (i : Nat)) = some out ∧ d = .list out := by
  (first | rw [evX_nil] at h | rw [evX_var] at h | rw [evX_int] at h | rw [evX_str] at h | rw [evX_bool] at h | rw [evX_bin] at h | rw [evX_neg] at h | rw [evX_cmp] at h | rw [evX_bop] at h | rw [evX_not] at h | rw [evX_ite] at h | rw [evX_list] at h | rw [evX_tup] at h | rw [evX_idx] at h | rw [evX_slc] at h | rw [evX_comp] at h | rw [evX_compR] at h | rw [evX_call] at h | rw [evX_bi] at h | rw [evX_meth] at h | rw [evX_isBytes] at h | rw [evX_mapF] at h | rw [evX_cmpK] at h | rw [evX_cmpV] at h | rw [evX_keysOf] at h | rw [evX_ownLast] at h | rw [evX_ownLen] at h | rw [evX_ownNotIn] at h | rw [evX_ownSorted] at h)
  first | refine opND h fun out hout h => ?_ | refine opNL h fun out hout h => ?_
  · skip
    cases h
    refine ⟨out, ?_, rfl⟩
    have : turnD C K ρ v elt .nil = fun d => match evX C K (upd ρ v (.val d)) elt with | none => none | some y => some (some y) := by
      funext d
      unfold turnD
      simp only [evT_nil]
      all_goals (cases evX C K (upd ρ v (.val d)) elt <;> rfl)
    rw [this]; exact hout

theorem c_compG {elt cond src : X} {v : String} {A : Around} {env : Env} {ex own : List Addr} {ρ : Ro} {s : Shared} {Q E : Value → Shared → Prop} {use : Option (Value → Sem Unit)} {d : PyData} {el : Expr} {x : Str} {px : Pos} {it : Expr} {ifs : List Expr} {cs : Scope} {cpos pos : Pos}
    (c : Ctxt W H n A env ex own ρ s) (xs : XE prog w W H C K n src) (xe : XE prog w W H C K n elt) (xt : XT prog w W H C K n cond)
    (hc : chX env.scope (.comp elt v src cond) (.ListComp el [⟨.Name x px, it, ifs, 0⟩] cs cpos) = true) (hv : evX C K ρ (.comp elt v src cond) = some d)
    (hfin : ∀ D Cc h' tk m', s.heap.get? Cc = none → Grow s.heap h' → h'.Ns Cc m' → Rep h' (own ++ ex) (.ref D) d → D ≠ Cc →
      compPost (model prog w) A E use Q (.ref D) Cc (.ok .next) { s with heap := h', toks := tk }) :
    wpAny (model prog w) A (comprehension (.ListComp el [⟨.Name x px, it, ifs, 0⟩] cs cpos) cs env pos (newList []) false (eval it env) use) Q E s := by
  refine e3_4 (ev_comp hv) fun xv ds out hx hds hout ze27 => ?_; subst ze27
  replace hc := bodyX_comp hc
  refine and6 (fun h1 h2 h3 h4 h5 h6 => ?_) hc
  have h1 := str_eq h1; subst h1
  by_cases hsz : ds.length ≤ sizeLine
  · exact comp_any c h2 (notSet_of h4) h5 h6 hsz xe xt hout (fun P E' hP => src_ok c h3 xs hx hds P E' hP) hfin
  · -- the source is never so long
    refine e0_5 (compB_of h2) fun b1 b2 b3 b4 b5 => ?_
    refine e1_1 (c.st.names) fun σ0 N0 => ?_
    obtain ⟨cl, hclos, hcl⟩ := closure_ok (cs := cs) (env := env) fun y hy e => by
      refine e1_2 (N0.2.1 y.1 (b5 y hy e)) fun cc h1 zz => ?_
      exact ⟨cc, h1⟩
    refine wpAny_comprehension_free rfl (notSet_of h4) hclos b1 (fun y hy e => (b3 y hy e).2) ?_
    refine xs A env ex own ρ s it xv _ _ c h3 hx fun u h' tk g ru => ?_
    exact absurd (rep_size ru hds) hsz

theorem c_comp {elt cond src : X} {v : String} (xs : XE prog w W H C K n src) (xe : XE prog w W H C K n elt) (xt : XT prog w W H C K n cond) : XE prog w W H C K n (.comp elt v src cond) := fun A env ex own ρ s e d Q E c hc hv hQ => by
  refine invX_comp (P := fun e => wpAny (model prog w) A (eval e env) Q E s) (fun el x px it ifs cs cpos hc => ?_) hc
  · skip
    refine e1_1 (eval_ListComp' el (.Name x px) it ifs cs cpos env) fun pos e => ?_
    rw [e]
    refine e3_4 (ev_comp hv) fun xv ds out hx hds hout ze28 => ?_; subst ze28
    exact c_compG (use := none) c xs xe xt hc hv (post_none (env := env) hQ)

theorem c_compRG (W' : WdOk prog w W H) {elt : X} {v : String} {k : Nat} {A : Around} {env : Env} {ex own : List Addr} {ρ : Ro} {s : Shared} {Q E : Value → Shared → Prop} {use : Option (Value → Sem Unit)} {d : PyData} {el : Expr} {x : Str} {px : Pos} {rg : Str} {rp rp2 : Pos} {kk : Int} {kt : Nat} {kp : Pos} {cs : Scope} {cpos pos : Pos}
    (c : Ctxt W H n A env ex own ρ s) (xe : XE prog w W H C K n elt) (xt : XT prog w W H C K n .nil)
    (hc : chX env.scope (.compR elt v k) (.ListComp el [⟨.Name x px, .Call (.Name rg rp) [.Constant (.int kk) kt kp] [] rp2, [], 0⟩] cs cpos) = true) (hv : evX C K ρ (.compR elt v k) = some d)
    (hfin : ∀ D Cc h' tk m', s.heap.get? Cc = none → Grow s.heap h' → h'.Ns Cc m' → Rep h' (own ++ ex) (.ref D) d → D ≠ Cc →
      compPost (model prog w) A E use Q (.ref D) Cc (.ok .next) { s with heap := h', toks := tk }) :
    wpAny (model prog w) A (comprehension (.ListComp el [⟨.Name x px, .Call (.Name rg rp) [.Constant (.int kk) kt kp] [] rp2, [], 0⟩] cs cpos) cs env pos (newList []) false (eval (.Call (.Name rg rp) [.Constant (.int kk) kt kp] [] rp2) env) use) Q E s := by
  refine e1_2 (ev_compR hv) fun out hout ze29 => ?_; subst ze29
  have hc : (x == Str.ofString v && compB env.scope cs x && rg == Str.ofString "range" && globB env.scope rg && kk == (k : Int) && decide (k < 64) && chX (relabelS cs env.scope) elt el) = true := hc
  simp only [Bool.and_eq_true, beq_iff_eq, decide_eq_true_eq] at hc
  refine l7 (hc) fun h1 h2 h3 h4 h5 h6 h7 => ?_
  subst h1; subst h3; subst h5
  refine comp_any c h2 (fun _ => rfl) h7 rfl (by rw [List.length_map, List.length_range, sizeLine_eq]; lia) xe xt hout (fun P E' hP => ?_) hfin
  refine Call_ (glob_bi (W' := W') c h4 W'.range (by decide +kernel) ?_)
  refine Pv.callWith_type1 (args_cons (wpAny_Constant_int (args_nil ?_)))
  refine call_range_1 ?_
  refine wpAny_mono (range_ok (exx := own ++ ex) (E := E') (a := 0) (b := (k : Int)) c.room.handled (IsRange.new _ _ _ _ _ _ _) (by lia) (by lia) (by lia) (by lia)) (fun itv s₂ hi => ?_) fun _ _ e => e
  refine e4_6 (hi) fun I wr St h2' e ze30 g2 Wt st0 hwr => ?_; subst ze30
  rw [e]
  have ed : ((List.range ((k : Int) - 0).toNat).map fun i => PyData.int (0 + (i : Nat))) = (List.range k).map fun i => .int (i : Nat) := by
    have : ((k : Int) - 0).toNat = k := by lia
    rw [this]
    simp
  rw [ed] at Wt
  refine hP _ h2' _ wr I St rfl ((Grow.push _ _).trans g2) Wt st0 fun b hb => ?_
  cases e : s.heap.get? b with
  | none => rfl
  | some o => have := Grow.push s.heap { cls := .type "range", data := .fields #[.int 0 (s.toks + 1), .int (k : Int) s.toks, .int 1 (s.toks + 1 + 1)] } b o e; rw [hwr b hb] at this; cases this

theorem c_compR (W' : WdOk prog w W H) {elt : X} {v : String} {k : Nat} (xe : XE prog w W H C K n elt) (xt : XT prog w W H C K n .nil) : XE prog w W H C K n (.compR elt v k) := fun A env ex own ρ s e d Q E c hc hv hQ => by
  refine invX_compR (P := fun e => wpAny (model prog w) A (eval e env) Q E s) (fun el x px rg rp kk kt kp rp2 cs cpos hc => ?_) hc
  · skip
    refine e1_1 (eval_ListComp' el (.Name x px) (.Call (.Name rg rp) [.Constant (.int kk) kt kp] [] rp2) [] cs cpos env) fun pos e => ?_
    rw [e]
    refine e1_2 (ev_compR hv) fun out hout ze31 => ?_; subst ze31
    exact c_compRG (use := none) W' c xe xt hc hv (post_none (env := env) hQ)
end
end Mine
end

section
open PySem PySem.W PyProof.Rows

namespace Mine
set_option tactic.hygienic false
section
variable {prog : Program} {w : World} {W : Wh} {H : Heap} {C : String → List PyData → Option PyData} {K : PyData → PyData → PyData → Option PyData} {n : Nat}

/-- the expressions whose truth is the truth of their value -/
noncomputable def Sh (e : Expr) : Prop := (∀ env whole, isTrue e env whole = (do let v ← whole; standAt e.pos; holding [v] (truthy v))) ∨ ∃ l op r p, e = .Compare l [op] [r] p

theorem isTrue_sh {e : Expr} {env : Env} {A : Around} {s : Shared} {Q : Bool → Shared → Prop} {E : Value → Shared → Prop} (hs : Sh e) (h : wpAny (model prog w) A (eval e env) (fun v s₁ => wpAny (model prog w) A (truthy v) Q E s₁) E s) :
    wpAny (model prog w) A (isTrue e env (eval e env)) Q E s := by
  rcases hs with hs | ⟨l, op, r, p, rfl⟩
  · exact wpAny_isTrue_value h (hs _ _)
  · have e : isTrue (.Compare l [op] [r] p) env (eval (.Compare l [op] [r] p) env) = (eval (.Compare l [op] [r] p) env >>= fun c => holding [c] (truthy c)) := by
      rw [isTrue_Compare1, eval_Compare1]; simp only [bind_assoc]
    rw [e]
    exact wpAny_bind (wpAny_mono h (fun v s₁ h₁ => wpAny_holding h₁) fun _ _ x => x)

set_option tactic.hygienic true in
theorem gen_T {x : X} (hx : XE prog w W H C K n x) (hev : ∀ ρ o, evT C K ρ x o = match o with | some d => truthyD d | none => none) (hsh : ∀ sc e, chX sc x e = true → Sh e) : XT prog w W H C K n x :=
  fun A env ex own ρ s e b Q E c hc hv hQ => by
    rw [hev] at hv
    first | refine oV hv fun d hd hv => ?_ | refine oC hv fun d hd hv => ?_ | refine oO hv fun d hd hv => ?_ | refine oI hv fun d hd hv => ?_ | refine oT hv fun d hd hv => ?_ | refine opS2D hv fun d hd hv => ?_ | refine opS2L hv fun d hd hv => ?_ | refine opS2B hv fun d hd hv => ?_ | refine opS2S hv fun d hd hv => ?_
    · skip
      refine isTrue_sh (hsh _ _ hc) (hx A env ex own ρ s e d _ _ c hc hd fun v h' tk g rv => ?_)
      exact truthy_ok (s := { s with heap := h', toks := tk }) rv hv fun tk' => hQ _ _ g

theorem sh_rfl {e : Expr} (h : ∀ env whole, isTrue e env whole = (do let v ← whole; standAt e.pos; holding [v] (truthy v))) : Sh e := .inl h

theorem t_nil : XT prog w W H C K n .nil := fun A env ex own ρ s e b Q E c hc hv hQ => absurd hc Bool.false_ne_true
theorem t_int (i : Int) : XT prog w W H C K n (.int i) := gen_T (c_int i) (fun _ o => by cases o <;> rfl) fun sc e h => by exact invX_int (P := Sh) (fun _ _ _ _ => sh_rfl (fun _ _ => rfl)) h
theorem t_str (i : String) : XT prog w W H C K n (.str i) := gen_T (c_str i) (fun _ o => by cases o <;> rfl) fun sc e h => by exact invX_str (P := Sh) (fun _ _ _ _ => sh_rfl (fun _ _ => rfl)) h
theorem t_bool (i : Bool) : XT prog w W H C K n (.bool i) := gen_T (c_bool i) (fun _ o => by cases o <;> rfl) fun sc e h => by exact invX_bool (P := Sh) (fun _ _ _ _ => sh_rfl (fun _ _ => rfl)) h
theorem t_bin {o : Op2} {a b : X} (h : XE prog w W H C K n (.bin o a b)) : XT prog w W H C K n (.bin o a b) := gen_T h (fun _ o => by cases o <;> rfl) fun sc e h => by exact invX_bin (P := Sh) (fun _ _ _ _ _ => sh_rfl (fun _ _ => rfl)) h
theorem t_neg {a : X} (h : XE prog w W H C K n (.neg a)) : XT prog w W H C K n (.neg a) := gen_T h (fun _ o => by cases o <;> rfl) fun sc e h => by exact invX_neg (P := Sh) (fun _ _ _ => sh_rfl (fun _ _ => rfl)) h
theorem t_cmp {o : Cm} {a b : X} (h : XE prog w W H C K n (.cmp o a b)) : XT prog w W H C K n (.cmp o a b) := gen_T h (fun _ o => by cases o <;> rfl) fun sc e h => by exact invX_cmp (P := Sh) (fun _ _ _ _ _ => .inr ⟨_, _, _, _, rfl⟩) h
theorem t_list {a : List X} (h : XE prog w W H C K n (.list a)) : XT prog w W H C K n (.list a) := gen_T h (fun _ o => by cases o <;> rfl) fun sc e h => by exact invX_list (P := Sh) (fun _ _ _ => sh_rfl (fun _ _ => rfl)) h
theorem t_tup {a : List X} (h : XE prog w W H C K n (.tup a)) : XT prog w W H C K n (.tup a) := gen_T h (fun _ o => by cases o <;> rfl) fun sc e h => by exact invX_tup (P := Sh) (fun _ _ _ _ => sh_rfl (fun _ _ => rfl)) h
theorem t_idx {a b : X} (h : XE prog w W H C K n (.idx a b)) : XT prog w W H C K n (.idx a b) := gen_T h (fun _ o => by cases o <;> rfl) fun sc e h => by exact invX_idx (P := Sh) (fun _ _ _ _ => sh_rfl (fun _ _ => rfl)) h
theorem t_slc {a b d : X} (h : XE prog w W H C K n (.slc a b d)) : XT prog w W H C K n (.slc a b d) := gen_T h (fun _ o => by cases o <;> rfl) fun sc e h => by exact invX_slc (P := Sh) (fun _ _ _ _ _ _ => sh_rfl (fun _ _ => rfl)) h
theorem t_comp {a b d : X} {v : String} (h : XE prog w W H C K n (.comp a v b d)) : XT prog w W H C K n (.comp a v b d) := gen_T h (fun _ o => by cases o <;> rfl) fun sc e h => by exact invX_comp (P := Sh) (fun _ _ _ _ _ _ _ _ => sh_rfl (fun _ _ => rfl)) h
theorem t_compR {a : X} {v : String} {k : Nat} (h : XE prog w W H C K n (.compR a v k)) : XT prog w W H C K n (.compR a v k) := gen_T h (fun _ o => by cases o <;> rfl) fun sc e h => by exact invX_compR (P := Sh) (fun _ _ _ _ _ _ _ _ _ _ _ _ => sh_rfl (fun _ _ => rfl)) h
theorem t_call {f : String} {a : List X} (h : XE prog w W H C K n (.call f a)) : XT prog w W H C K n (.call f a) := gen_T h (fun _ o => by cases o <;> rfl) fun sc e h => by exact invX_call (P := Sh) (fun _ _ _ _ _ => sh_rfl (fun _ _ => rfl)) h
theorem t_bi {f : String} {a : List X} (h : XE prog w W H C K n (.bi f a)) : XT prog w W H C K n (.bi f a) := gen_T h (fun _ o => by cases o <;> rfl) fun sc e h => by exact invX_bi (P := Sh) (fun _ _ _ _ _ => sh_rfl (fun _ _ => rfl)) h
theorem t_meth {f : String} {o : X} {a : List X} (h : XE prog w W H C K n (.meth f o a)) : XT prog w W H C K n (.meth f o a) := gen_T h (fun _ o => by cases o <;> rfl) fun sc e h => by exact invX_meth (P := Sh) (fun _ _ _ _ _ _ => sh_rfl (fun _ _ => rfl)) h
theorem t_isBytes {a : X} (h : XE prog w W H C K n (.isBytes a)) : XT prog w W H C K n (.isBytes a) := gen_T h (fun _ o => by cases o <;> rfl) fun sc e h => by exact invX_isBytes (P := Sh) (fun _ _ _ _ _ _ _ => sh_rfl (fun _ _ => rfl)) h
theorem t_mapF {a : X} (h : XE prog w W H C K n (.mapF a)) : XT prog w W H C K n (.mapF a) := gen_T h (fun _ o => by cases o <;> rfl) fun sc e h => by exact invX_mapF (P := Sh) (fun _ _ _ _ _ _ _ _ _ _ => sh_rfl (fun _ _ => rfl)) h
theorem t_cmpK {a b d : X} (h : XE prog w W H C K n (.cmpK a b d)) : XT prog w W H C K n (.cmpK a b d) := gen_T h (fun _ o => by cases o <;> rfl) fun sc e h => by exact invX_cmpK (P := Sh) (fun _ _ _ _ _ _ _ _ _ _ => sh_rfl (fun _ _ => rfl)) h
theorem t_cmpV {v : String} {b d : X} (h : XE prog w W H C K n (.cmpV v b d)) : XT prog w W H C K n (.cmpV v b d) := gen_T h (fun _ o => by cases o <;> rfl) fun sc e h => by exact invX_cmpV (P := Sh) (fun _ _ _ _ _ _ _ _ => sh_rfl (fun _ _ => rfl)) h
theorem t_keysOf {v : String} (h : XE prog w W H C K n (.keysOf v)) : XT prog w W H C K n (.keysOf v) := gen_T h (fun _ o => by cases o <;> rfl) fun sc e h => by exact invX_keysOf (P := Sh) (fun _ _ _ _ _ => sh_rfl (fun _ _ => rfl)) h
theorem t_ownLast {v : String} (h : XE prog w W H C K n (.ownLast v)) : XT prog w W H C K n (.ownLast v) := gen_T h (fun _ o => by cases o <;> rfl) fun sc e h => by exact invX_ownLast (P := Sh) (fun _ _ _ _ _ _ _ => sh_rfl (fun _ _ => rfl)) h
theorem t_ownLen {v : String} (h : XE prog w W H C K n (.ownLen v)) : XT prog w W H C K n (.ownLen v) := gen_T h (fun _ o => by cases o <;> rfl) fun sc e h => by exact invX_ownLen (P := Sh) (fun _ _ _ _ _ _ => sh_rfl (fun _ _ => rfl)) h
theorem t_ownNotIn {a : X} {v : String} (h : XE prog w W H C K n (.ownNotIn a v)) : XT prog w W H C K n (.ownNotIn a v) := gen_T h (fun _ o => by cases o <;> rfl) fun sc e h => by exact invX_ownNotIn (P := Sh) (fun _ _ _ _ _ => .inr ⟨_, _, _, _, rfl⟩) h
theorem t_ownSorted {v : String} (h : XE prog w W H C K n (.ownSorted v)) : XT prog w W H C K n (.ownSorted v) := gen_T h (fun _ o => by cases o <;> rfl) fun sc e h => by exact invX_ownSorted (P := Sh) (fun _ _ _ _ _ _ => sh_rfl (fun _ _ => rfl)) h
theorem t_ite {a b d : X} : XT prog w W H C K n (.ite a b d) := fun A env ex own ρ s e b Q E c hc hv hQ => by simp [evT_ite] at hv

set_option tactic.hygienic true in
theorem t_not {a : X} (h : XT prog w W H C K n a) : XT prog w W H C K n (.not a) := fun A env ex own ρ s e b Q E c hc hv hQ => by
  refine invX_not (P := fun e => wpAny (model prog w) A (isTrue e env (eval e env)) Q E s) (fun q1 q2 hc => ?_) hc
  · simp only [evT_not] at hv
    first | refine oV hv fun b' hb hv => ?_ | refine oC hv fun b' hb hv => ?_ | refine oO hv fun b' hb hv => ?_ | refine oI hv fun b' hb hv => ?_ | refine oT hv fun b' hb hv => ?_ | refine opS2D hv fun b' hb hv => ?_ | refine opS2L hv fun b' hb hv => ?_ | refine opS2B hv fun b' hb hv => ?_ | refine opS2S hv fun b' hb hv => ?_
    · skip
      cases hv
      exact wpAny_isTrue_Not (h A env ex own ρ s _ b' _ _ c hc hb hQ)

set_option tactic.hygienic true in
theorem t_var (v : String) : XT prog w W H C K n (.var v) := fun A env ex own ρ s e b Q E c hc hv hQ => by
  refine invX_var (P := fun e => wpAny (model prog w) A (isTrue e env (eval e env)) Q E s) (fun q1 q2 hc => ?_) hc
  have hc0 := hc
  · simp only [Bool.and_eq_true, Bool.not_eq_true'] at hc
    obtain ⟨⟨h1, h2⟩, h3⟩ := hc
    have h1 := str_eq h1; subst h1
    simp only [evT_var] at hv
    split at hv
    · rename_i d hd
      refine isTrue_sh (sh_rfl fun _ _ => rfl) (c_var (C := C) (K := K) v A env ex own ρ s _ d _ _ c hc0 (by simp only [evX_var, hd]) fun u h' tk g ru => ?_)
      exact truthy_ok (s := { s with heap := h', toks := tk }) ru hv fun tk' => hQ _ _ g
    · rename_i ds hd
      cases hv
      obtain ⟨b, vs, k, hb, g, r, l, _⟩ := own_ok (prog := prog) (w := w) c (seen_of h2) hd
      refine isTrue_sh (sh_rfl fun _ _ => rfl) (hb _ _ _ h3 ?_)
      refine truthy_ownok g (by rw [sizeLine_eq, r.length]; lia) fun tk => ?_
      rw [r.length]
      exact hQ _ _ (Grow.refl _)
    · exact nos hv

set_option tactic.hygienic true in
theorem all_loop {k : Bool} : ∀ {xs : List X} {es : List Expr} {A : Around} {env : Env} {ex own : List Addr} {ρ : Ro} {s : Shared} {b : Bool} {Q : Bool → Shared → Prop} {E : Value → Shared → Prop}
    (_ : ∀ x ∈ xs, XT prog w W H C K n x) (_ : Ctxt W H n A env ex own ρ s) (_ : chXs env.scope xs es = true) (_ : evTs C K ρ k xs = some b) (_ : ∀ h' tk, Grow s.heap h' → Q b { s with heap := h', toks := tk }),
    wpAny (model prog w) A (allTrue (if k then .And else .Or) es env) Q E s
  | [], es, A, env, ex, own, ρ, s, b, Q, E, _, _, hc, hv, hQ => by
    simp [chXs_nil] at hc; subst hc
    simp [evTs_nil] at hv; subst hv
    rw [arm_allTrue_nil]
    refine wpAny_pure ?_
    have : (((if k = true then BoolOp.And else BoolOp.Or) == BoolOp.And) : Bool) = k := by cases k <;> rfl
    rw [this]
    exact hQ _ _ (Grow.refl _)
  | x :: xs, es, A, env, ex, own, ρ, s, b, Q, E, hx, c, hc, hv, hQ => by
    cases es with
    | nil => exact absurd hc Bool.false_ne_true
    | cons e es =>
      rw [chXs_cons, Bool.and_eq_true] at hc
      simp only [evTs_cons] at hv
      split at hv
      · exact nos hv
      · rename_i b1 hb1
        rw [arm_allTrue_cons]
        refine wpAny_bind (hx x (.head _) A env ex own ρ s e b1 _ _ c hc.1 hb1 fun h' tk g => ?_)
        cases k with
        | true =>
          cases b1 with
          | true =>
            simp only [if_true] at hv
            exact all_loop (k := true) (fun z hz => hx z (.tail _ hz)) (c.up W H n g) hc.2 hv fun h2 tk2 g2 => hQ _ _ (g.trans g2)
          | false => simp at hv; subst hv; exact wpAny_pure (hQ _ _ g)
        | false =>
          cases b1 with
          | false =>
            simp only [if_true] at hv
            exact all_loop (k := false) (fun z hz => hx z (.tail _ hz)) (c.up W H n g) hc.2 hv fun h2 tk2 g2 => hQ _ _ (g.trans g2)
          | true => simp at hv; subst hv; exact wpAny_pure (hQ _ _ g)

theorem t_bop {k : Bool} {xs : List X} (hx : ∀ x ∈ xs, XT prog w W H C K n x) : XT prog w W H C K n (.bop k xs) := fun A env ex own ρ s e b Q E c hc hv hQ => by
  refine invX_bop (P := fun e => wpAny (model prog w) A (isTrue e env (eval e env)) Q E s) (fun q1 q2 q3 hc => ?_) hc
  · simp only [Bool.and_eq_true] at hc
    have := boB_of hc.1; subst this
    simp only [evT_bop] at hv
    exact wpAny_isTrue_BoolOp (all_loop hx c hc.2 hv hQ)

variable (W' : WdOk prog w W H) (hC : CallOk prog w W H C n) (hK : CmpOk prog w W H K n) (hM : MapOk prog w W H n)
include W' hC hK hM
mutual
theorem X_all : ∀ x : X, XE prog w W H C K n x ∧ XT prog w W H C K n x
  | .nil => ⟨c_nil, t_nil⟩
  | .var v => ⟨c_var v, t_var v⟩
  | .int i => ⟨c_int i, t_int i⟩
  | .str t => ⟨c_str t, t_str t⟩
  | .bool b => ⟨c_bool b, t_bool b⟩
  | .bin o a b => ⟨c_bin o (X_all a).1 (X_all b).1, t_bin (c_bin o (X_all a).1 (X_all b).1)⟩
  | .neg a => ⟨c_neg (X_all a).1, t_neg (c_neg (X_all a).1)⟩
  | .cmp o a b => ⟨c_cmp o (X_all a).1 (X_all b).1, t_cmp (c_cmp o (X_all a).1 (X_all b).1)⟩
  | .bop k xs => ⟨c_bop fun x hx => (Xs_all xs x hx).1, t_bop fun x hx => (Xs_all xs x hx).2⟩
  | .not a => ⟨c_not, t_not (X_all a).2⟩
  | .ite t a b => ⟨c_ite (X_all t).2 (X_all a).1 (X_all b).1, t_ite⟩
  | .list xs => ⟨c_list fun x hx => (Xs_all xs x hx).1, t_list (c_list fun x hx => (Xs_all xs x hx).1)⟩
  | .tup xs => ⟨c_tup fun x hx => (Xs_all xs x hx).1, t_tup (c_tup fun x hx => (Xs_all xs x hx).1)⟩
  | .idx a b => ⟨c_idx (X_all a).1 (X_all b).1, t_idx (c_idx (X_all a).1 (X_all b).1)⟩
  | .slc a lo hi => ⟨c_slc (X_all a).1 (X_all lo).1 (X_all hi).1, t_slc (c_slc (X_all a).1 (X_all lo).1 (X_all hi).1)⟩
  | .comp elt v src cond => ⟨c_comp (X_all src).1 (X_all elt).1 (X_all cond).2, t_comp (c_comp (X_all src).1 (X_all elt).1 (X_all cond).2)⟩
  | .compR elt v k => ⟨c_compR W' (X_all elt).1 t_nil, t_compR (c_compR W' (X_all elt).1 t_nil)⟩
  | .call f xs => ⟨c_call W' hC f fun x hx => (Xs_all xs x hx).1, t_call (c_call W' hC f fun x hx => (Xs_all xs x hx).1)⟩
  | .bi f xs => ⟨c_bi W' f fun x hx => (Xs_all xs x hx).1, t_bi (c_bi W' f fun x hx => (Xs_all xs x hx).1)⟩
  | .meth m o xs => ⟨c_meth m (X_all o).1 fun x hx => (Xs_all xs x hx).1, t_meth (c_meth m (X_all o).1 fun x hx => (Xs_all xs x hx).1)⟩
  | .isBytes a => ⟨c_isBytes W' (X_all a).1, t_isBytes (c_isBytes W' (X_all a).1)⟩
  | .mapF a => ⟨c_mapF W' hM (X_all a).1, t_mapF (c_mapF W' hM (X_all a).1)⟩
  | .cmpK k l r => ⟨c_cmpK W' hK (X_all k).1 (X_all l).1 (X_all r).1, t_cmpK (c_cmpK W' hK (X_all k).1 (X_all l).1 (X_all r).1)⟩
  | .cmpV v l r => ⟨c_cmpV hK (X_all l).1 (X_all r).1, t_cmpV (c_cmpV hK (X_all l).1 (X_all r).1)⟩
  | .keysOf v => ⟨c_keysOf hK, t_keysOf (c_keysOf hK)⟩
  | .ownLast v => ⟨c_ownLast, t_ownLast c_ownLast⟩
  | .ownLen v => ⟨c_ownLen W', t_ownLen (c_ownLen W')⟩
  | .ownNotIn a v => ⟨c_ownNotIn (X_all a).1, t_ownNotIn (c_ownNotIn (X_all a).1)⟩
  | .ownSorted v => ⟨c_ownSorted W', t_ownSorted (c_ownSorted W')⟩
theorem Xs_all : ∀ xs : List X, ∀ x ∈ xs, XE prog w W H C K n x ∧ XT prog w W H C K n x
  | [], _, hx => nomatch hx
  | y :: ys, x, hx => by
    rcases List.mem_cons.mp hx with h | h
    · rw [h]; exact X_all y
    · exact Xs_all ys x h
end
end
end Mine
end

section
open PySem PySem.W PyProof.Rows

namespace Mine
set_option tactic.hygienic false

set_option tactic.hygienic true in
noncomputable def FlOk (h : Heap) (ex : List Addr) : Fl → Flow → Prop
  | .next, .next => True
  | .brk, .brk => True
  | .cont, .cont => True
  | .ret d, .ret v => Rep h ex v d
  | _, _ => False

section
variable (prog : Program) (w : World) (W : Wh) (H : Heap) (C : String → List PyData → Option PyData) (K : PyData → PyData → PyData → Option PyData) (n : Nat)

structure CtxS (A : Around) (env : Env) (ex own : List Addr) (ρ : Ro) (s : Shared) : Prop where
  room : Room A n
  eo : EnvOk W env
  st : StS W H env ex own ρ s.heap
  exH : ∀ a ∈ ex, ∃ o, H.get? a = some o

theorem CtxS.x {A : Around} {env : Env} {ex own : List Addr} {ρ : Ro} {s : Shared} (c : CtxS W H n A env ex own ρ s) : Ctxt W H n A env ex own ρ s :=
  ⟨c.room, c.eo, c.st.toE, c.st.old fun a m => let ⟨o, e⟩ := c.exH a m; ⟨o, c.st.grow _ _ e⟩⟩
theorem CtxS.to {A : Around} {env : Env} {ex own own' : List Addr} {ρ ρ' : Ro} {s : Shared} (c : CtxS W H n A env ex own ρ s) {h' : Heap} {tk : Nat} (st : StS W H env ex own' ρ' h') : CtxS W H n A env ex own' ρ' { s with heap := h', toks := tk } :=
  ⟨c.room, c.eo, st, c.exH⟩
theorem CtxS.up {A : Around} {env : Env} {ex own : List Addr} {ρ : Ro} {s : Shared} (c : CtxS W H n A env ex own ρ s) {h' : Heap} {tk : Nat} (g : Grow s.heap h') : CtxS W H n A env ex own ρ { s with heap := h', toks := tk } :=
  ⟨c.room, c.eo, c.st.up g, c.exH⟩

noncomputable def PostS (env : Env) (ex own : List Addr) (s : Shared) (o : Fl) (ρ' : Ro) (Q : Flow → Shared → Prop) : Prop :=
  ∀ h' tk own' fl, StS W H env ex own' ρ' h' → Chg env own s.heap h' → Newer own own' s.heap → FlOk h' (own' ++ ex) o fl → Q fl { s with heap := h', toks := tk }

noncomputable def SP (st : S) : Prop := ∀ (A : Around) (env : Env) (ex own : List Addr) (ρ ρ' : Ro) (s : Shared) (t : Stmt) (o : Fl) (Q : Flow → Shared → Prop) (E : Value → Shared → Prop), CtxS W H n A env ex own ρ s →
  chS env.scope st t = true → exS C K st ρ = some (o, ρ') → PostS W H env ex own s o ρ' Q → wpAny (model prog w) A (exec t env) Q E s
noncomputable def SPs (sts : List S) : Prop := ∀ (A : Around) (env : Env) (ex own : List Addr) (ρ ρ' : Ro) (s : Shared) (ts : List Stmt) (o : Fl) (Q : Flow → Shared → Prop) (E : Value → Shared → Prop), CtxS W H n A env ex own ρ s →
  chSs env.scope sts ts = true → exSs C K sts ρ = some (o, ρ') → PostS W H env ex own s o ρ' Q → wpAny (model prog w) A (execs ts env) Q E s
end

section
variable {prog : Program} {w : World} {W : Wh} {H : Heap} {C : String → List PyData → Option PyData} {K : PyData → PyData → PyData → Option PyData} {n : Nat}

theorem PostS.from {env : Env} {ex own own1 : List Addr} {s : Shared} {o : Fl} {ρ' ρ1 : Ro} {Q : Flow → Shared → Prop} (hQ : PostS W H env ex own s o ρ' Q) {h1 : Heap} {tk1 : Nat} (c1 : Chg env own s.heap h1) (n1 : Newer own own1 s.heap) (st1 : StS W H env ex own1 ρ1 h1) :
    PostS W H env ex own1 { s with heap := h1, toks := tk1 } o ρ' Q :=
  fun h' tk own' fl st' c2 n2 f => hQ h' tk own' fl st' (c1.trans n1 c2) (n1.trans c1 n2 st'.mineNe) f
theorem PostS.grow {env : Env} {ex own : List Addr} {s : Shared} {o : Fl} {ρ' ρ1 : Ro} {Q : Flow → Shared → Prop} (hQ : PostS W H env ex own s o ρ' Q) {h1 : Heap} {tk1 : Nat} (g : Grow s.heap h1) (st : StS W H env ex own ρ1 s.heap) :
    PostS W H env ex own { s with heap := h1, toks := tk1 } o ρ' Q := hQ.from (g.chg _ _) (Newer.refl _ _) (st.up g)

set_option tactic.hygienic true in
theorem ss_nil : SPs prog w W H C K n [] := fun A env ex own ρ ρ' s ts o Q E c hc hv hQ => by
  simp [chSs] at hc; subst hc
  simp [exSs_nil] at hv
  obtain ⟨rfl, rfl⟩ := hv
  exact wpAny_execs_nil (hQ s.heap s.toks own .next c.st (fun _ _ _ _ _ e => e) (Newer.refl _ _) trivial)

theorem ss_el {o : Option (Fl × Ro)} {k : Ro → Option (Fl × Ro)} {z : Fl × Ro} {P : Prop} (h : (match o with
    | none => none
    | some (.next, ρ') => k ρ'
    | some (.brk, ρ') => some (.brk, ρ')
    | some (.cont, ρ') => some (.cont, ρ')
    | some (.ret d, ρ') => some (.ret d, ρ')) = some z) (g : ∀ ρ1, o = some (.next, ρ1) → k ρ1 = some z → P) (g2 : ∀ fl ρ1, fl ≠ .next → o = some (fl, ρ1) → (fl, ρ1) = z → P) : P := by
  cases o with
  | none => exact nos h
  | some x =>
    cases x with
    | mk fl ρ1 =>
      cases fl with
      | next => exact g ρ1 rfl h
      | brk => exact g2 .brk ρ1 (fun e => nomatch e) rfl (Option.some.inj h)
      | cont => exact g2 .cont ρ1 (fun e => nomatch e) rfl (Option.some.inj h)
      | ret d => exact g2 (.ret d) ρ1 (fun e => nomatch e) rfl (Option.some.inj h)
theorem chSs_cons (sc : Scope) (s : S) (r : List S) (es : List Stmt) : chSs sc (s :: r) es = ((match s with | .dead => true | _ => false) || (match es with | e :: es' => chS sc s e && chSs sc r es' | [] => false)) := rfl
theorem ss_cons {st : S} {r : List S} (h1 : SP prog w W H C K n st) (h2 : SPs prog w W H C K n r) : SPs prog w W H C K n (st :: r) := fun A env ex own ρ ρ' s ts o Q E c hc hv hQ => by
  rw [chSs_cons, Bool.or_eq_true] at hc
  rw [exSs_cons] at hv
  refine hc.elim (fun hc => ?_) fun hc => ?_
  · cases st <;> first | exact absurd hc Bool.false_ne_true | exact nos hv
  · cases ts with
    | nil => exact absurd hc Bool.false_ne_true
    | cons t ts =>
      rw [Bool.and_eq_true] at hc
      refine wpAny_execs_cons ?_
      refine ss_el hv (fun ρ1 h1v hv => ?_) fun fl0 ρ1 hne h1v e => ?_
      · refine h1 A env ex own ρ ρ1 s t .next _ _ c hc.1 h1v fun h' tk own' fl st' c' n' f => ?_
        cases fl with
        | next => exact h2 A env ex own' ρ1 ρ' _ ts o _ _ (c.to W H n st') hc.2 hv (hQ.from c' n' st')
        | _ => exact f.elim
      · have e1 : fl0 = o := congrArg Prod.fst e
        have e2 : ρ1 = ρ' := congrArg Prod.snd e
        subst e1; subst e2
        refine h1 A env ex own ρ ρ1 s t fl0 _ _ c hc.1 h1v fun h' tk own' fl st' c' n' f => ?_
        cases fl with
        | next => cases fl0 <;> first | exact absurd rfl hne | exact f.elim
        | _ => exact hQ h' tk own' _ st' c' n' f

/-- the store of a value -/
theorem store_val {A : Around} {env : Env} {ex own : List Addr} {ρ : Ro} {s : Shared} {x : String} {v : Value} {d : PyData} {Q : Unit → Shared → Prop} {E : Value → Shared → Prop} (c : CtxS W H n A env ex own ρ s) (hx : seen env x)
    (r : Rep s.heap (own ++ ex) v d) (h : ∀ h' tk, StS W H env ex own (upd ρ x (.val d)) h' → Chg env own s.heap h' → Q () { s with heap := h', toks := tk }) : wpAny (model prog w) A (storeName env (Str.ofString x) v) Q E s :=
  let ⟨_, N⟩ := c.st.names; store_ok c.eo c.st hx (a := .val d) ⟨v, rfl, r⟩ N (fun ds e => by cases e) fun h' tk a b _ => h h' tk a b.any

theorem nameB_of {sc : Scope} {v : String} {t : Expr} (h : nameB sc v t = true) : ∃ p, t = .Name (Str.ofString v) p ∧ seesB sc (Str.ofString v) = true := by
  refine p_Name_el (P := fun t => ∃ p, t = .Name (Str.ofString v) p ∧ seesB sc (Str.ofString v) = true) (fun x p h => ?_) h
  refine and2 (fun h1 h2 => ?_) h
  have h1 := str_eq h1; subst h1
  exact ⟨_, rfl, h2⟩

theorem noSwap {value : Expr} {t : Option Expr} {line : Nat} {env : Env} (h : isComp value = false) : swapsWith value t line env = pure false := by
  cases value <;> first | rfl | cases h

theorem s_assign {v : String} {e : X} (he : XE prog w W H C K n e) : SP prog w W H C K n (.assign v e) := fun A env ex own ρ ρ' s t o Q E c hc hv hQ => by
  refine invS_assign (P := fun t => wpAny (model prog w) A (exec t env) Q E s) (fun q1 q2 q3 hc => ?_) hc
  · simp only [Bool.and_eq_true, Bool.not_eq_true'] at hc
    obtain ⟨⟨h1, h2⟩, h3⟩ := hc
    obtain ⟨p, rfl, hs⟩ := nameB_of h1
    dsimp only [exS_assign] at hv
    first | refine opSD hv fun d hd hv => ?_ | refine opSL hv fun d hd hv => ?_
    · skip
      cases hv
      refine wpAny_Assign_Name (he A env ex own ρ s _ d _ _ (c.x W H n) h3 hd fun u h' tk g ru => ?_) (noSwap h2)
      refine store_val (c.up W H n g) (seen_of hs) ru fun h2' tk2 st2 c2 => ?_
      exact hQ h2' tk2 own .next st2 ((g.chg _ _).trans (Newer.refl _ _) c2) (Newer.refl _ _) trivial

theorem s_ret {e : X} (he : XE prog w W H C K n e) : SP prog w W H C K n (.ret e) := fun A env ex own ρ ρ' s t o Q E c hc hv hQ => by
  refine invS_ret (P := fun t => wpAny (model prog w) A (exec t env) Q E s) (fun q1 q2 hc => ?_) hc
  · dsimp only [exS_ret] at hv
    first | refine opSD hv fun d hd hv => ?_ | refine opSL hv fun d hd hv => ?_
    · skip
      cases hv
      refine wpAny_Return_some (he A env ex own ρ s _ d _ _ (c.x W H n) hc hd fun u h' tk g ru => ?_)
      exact hQ h' tk own (.ret u) (c.st.up g) (g.chg _ _) (Newer.refl _ _) ru

theorem s_brk : SP prog w W H C K n .brk := fun A env ex own ρ ρ' s t o Q E c hc hv hQ => by
  refine invS_brk (P := fun t => wpAny (model prog w) A (exec t env) Q E s) (fun q1 hc => ?_) hc
  · simp [exS_brk] at hv
    obtain ⟨rfl, rfl⟩ := hv
    exact wpAny_Break (hQ s.heap s.toks own .brk c.st (fun _ _ _ _ _ e => e) (Newer.refl _ _) trivial)
theorem s_cont : SP prog w W H C K n .cont := fun A env ex own ρ ρ' s t o Q E c hc hv hQ => by
  refine invS_cont (P := fun t => wpAny (model prog w) A (exec t env) Q E s) (fun q1 hc => ?_) hc
  · simp [exS_cont] at hv
    obtain ⟨rfl, rfl⟩ := hv
    exact wpAny_Continue (hQ s.heap s.toks own .cont c.st (fun _ _ _ _ _ e => e) (Newer.refl _ _) trivial)
theorem s_dead : SP prog w W H C K n .dead := fun A env ex own ρ ρ' s t o Q E c hc hv hQ => by exact nos hv

set_option tactic.hygienic true in
theorem s_ite {x : X} {a b : List S} (hx : XT prog w W H C K n x) (ha : SPs prog w W H C K n a) (hb : SPs prog w W H C K n b) : SP prog w W H C K n (.ite x a b) := fun A env ex own ρ ρ' s t o Q E c hc hv hQ => by
  refine invS_ite (P := fun t => wpAny (model prog w) A (exec t env) Q E s) (fun q1 q2 q3 q4 hc => ?_) hc
  · simp only [Bool.and_eq_true] at hc
    dsimp only [exS_ite] at hv
    split at hv
    · exact nos hv
    · rename_i hb'
      refine wpAny_If (hx A env ex own ρ s _ _ _ _ (c.x W H n) hc.1.1 hb' fun h' tk g => ?_)
      exact ha A env ex own ρ ρ' _ _ o Q E (c.up W H n g) hc.1.2 hv (hQ.grow g c.st)
    · rename_i hb'
      refine wpAny_If (hx A env ex own ρ s _ _ _ _ (c.x W H n) hc.1.1 hb' fun h' tk g => ?_)
      exact hb A env ex own ρ ρ' _ _ o Q E (c.up W H n g) hc.2 hv (hQ.grow g c.st)

set_option tactic.hygienic true in
theorem s_try {a : List S} (ha : SPs prog w W H C K n a) : SP prog w W H C K n (.try_ a) := fun A env ex own ρ ρ' s t o Q E c hc hv hQ => by
  refine invS_try (P := fun t => wpAny (model prog w) A (exec t env) Q E s) (fun q1 q2 q3 hc => ?_) hc
  · dsimp only [exS_try] at hv
    rw [arm_exec_Try]
    refine wpAny_bind (wpAny_standAt ?_)
    unfold tryStmt
    rw [if_pos (c := (([] : List Stmt).isEmpty = true)) rfl]
    refine wpAny_bind (wpAny_attempt ?_)
    refine ha A env ex own ρ ρ' s q1 o _ _ c hc hv fun h' tk own' fl st' c' n' f => ?_
    have fin := hQ h' tk own' fl st' c' n' f
    cases fl with
    | next => exact wpAny_execs_nil fin
    | brk => exact wpAny_pure fin
    | cont => exact wpAny_pure fin
    | ret v => exact wpAny_pure fin

set_option tactic.hygienic true in
theorem s_aug {v : String} {e : X} (he : XE prog w W H C K n e) : SP prog w W H C K n (.aug v e) := fun A env ex own ρ ρ' s t o Q E c hc hv hQ => by
  refine invS_aug (P := fun t => wpAny (model prog w) A (exec t env) Q E s) (fun q1 q2 q3 hc => ?_) hc
  · refine and2 (fun h1 h2 => ?_) hc
    obtain ⟨p, rfl, hs⟩ := nameB_of h1
    dsimp only [exS_aug] at hv
    first | refine oV hv fun x hx hv => ?_ | refine oC hv fun x hx hv => ?_ | refine oO hv fun x hx hv => ?_ | refine oI hv fun x hx hv => ?_ | refine oT hv fun x hx hv => ?_ | refine opS2D hv fun x hx hv => ?_ | refine opS2L hv fun x hx hv => ?_ | refine opS2B hv fun x hx hv => ?_ | refine opS2S hv fun x hx hv => ?_
    · skip
      first | refine oV hv fun y hy hv => ?_ | refine oC hv fun y hy hv => ?_ | refine oO hv fun y hy hv => ?_ | refine oI hv fun y hy hv => ?_ | refine oT hv fun y hy hv => ?_ | refine opS2D hv fun y hy hv => ?_ | refine opS2L hv fun y hy hv => ?_ | refine opS2B hv fun y hy hv => ?_ | refine opS2S hv fun y hy hv => ?_
      · skip
        split at hv
        · rename_i a b
          refine if_el (fun hl hv => ?_) hv
          · skip
            cases hv
            obtain ⟨σ, N⟩ := (c.x W H n).st.names
            have V := N.2.2 v (seen_of hs)
            rw [hx] at V
            obtain ⟨u0, hu0, ru0⟩ := V
            refine wpAny_AugAssign_Name (N.get c.eo.kind (seen_of hs) hu0 ?_)
            refine he A env ex own ρ s _ _ _ _ (c.x W H n) h2 hy fun u h' tk g ru => ?_
            cases ru0 with
            | str _ t0 h0 =>
              cases ru with
              | str _ t1 h1 =>
                refine iadd_str (fun t' tk' => ?_) hl
                refine store_val (c.up W H n g) (seen_of hs) (.str _ _ (by rw [Str.length_append]; exact hl)) fun h2' tk2 st2 c2 => ?_
                exact hQ h2' tk2 own .next st2 ((g.chg _ _).trans (Newer.refl _ _) c2) (Newer.refl _ _) trivial
        · exact nos hv
end
end Mine
end

section
open PySem PySem.W PyProof.Rows

namespace Mine
set_option tactic.hygienic false
section
variable {prog : Program} {w : World} {W : Wh} {H : Heap} {C : String → List PyData → Option PyData} {K : PyData → PyData → PyData → Option PyData} {n : Nat}

/-- a fresh list taken as the frame's own -/
theorem names_add {cc : Addr} {env : Env} {ex own : List Addr} {ρ : Ro} {h h' : Heap} {σ : Str → Option Value} {b : Addr} (N : Names cc env ex own ρ h σ) (hb : h.get? b = none) (g : Grow h h') : Names cc env ex (b :: own) ρ h' σ := by
  refine e0_3 (N) fun zt30 hc hv => ?_
  refine e1_2 (zt30) fun m hn hm => ?_
  have hb' : ∀ o, (∃ xs n, o.data = .seq xs n) → h.get? b = some o → False := fun o _ e => by exact nsm hb e
  refine ⟨⟨m, hn.keeps g, hm⟩, fun x hx => ?_, fun x hx => ?_⟩
  · obtain ⟨c, h1, o, h2, h3⟩ := hc x hx
    exact ⟨c, h1, o, g _ _ h2, h3⟩
  · have V := hv x hx
    generalize ρ x = a at V ⊢
    cases a with
    | no => trivial
    | val d => obtain ⟨u, e, r⟩ := V; exact ⟨u, e, (r.more hb').grow g⟩
    | own ds => obtain ⟨c, vs, k, e, hm1, g1, r, l⟩ := V; exact ⟨c, vs, k, e, .tail _ hm1, g _ _ g1, (r.more hb').grow g, l⟩
    | cmp k =>
      obtain ⟨c, e, dx, hs, t, nn, u, g1, gd, hd, r⟩ := V
      exact ⟨c, e, dx, hs, t, nn, u, g _ _ g1, g _ _ gd, hd, (r.more hb').grow g⟩

theorem fresh_own {cc : Addr} {env : Env} {ex own : List Addr} {ρ : Ro} {h : Heap} {σ : Str → Option Value} {b : Addr} (N : Names cc env ex own ρ h σ) (hb : h.get? b = none) : ∀ y es, ρ y = .own es → seen env y → σ (Str.ofString y) ≠ some (.ref b) := fun y es hy hs e => by
  have V := N.2.2 y hs
  rw [hy] at V
  refine e3_4 (V) fun c vs k e' zz g1 zz => ?_
  rw [e] at e'; cases e'
  rw [hb] at g1; cases g1

theorem StS.add {env : Env} {ex own : List Addr} {ρ : Ro} {h h' : Heap} {b : Addr} (S : StS W H env ex own ρ h) (hb : h.get? b = none) (g : Grow h h') (hl : ∃ xs k, h'.get? b = some { cls := .type "list", data := .seq xs k }) : StS W H env ex (b :: own) ρ h' := by
  have S' := S.up g
  refine e1_2 (S.names) fun σ N hd => ?_
  refine ⟨S'.grow, ⟨σ, names_add N hb g, hd⟩, S.low, S'.cells, S.apart, fun a ha => ?_⟩
  rcases List.mem_cons.mp ha with rfl | ha
  · refine ⟨?_, hl⟩
    cases e : H.get? a with
    | none => rfl
    | some o => rw [S.grow a o e] at hb; cases hb
  · exact S'.mine a ha

/-- the frame's own list changed -/
theorem StS.setOwn {env : Env} {ex own : List Addr} {ρ : Ro} {h h' : Heap} {v : String} {ds ds' : List PyData} {b : Addr} {vs' : List Value} {k' : Nat} {σ : Str → Option Value}
    (S : StS W H env ex own ρ h) (N : Names W.cc env ex own ρ h σ) (hd : ∀ x y ds es, x ≠ y → ρ x = .own ds → ρ y = .own es → seen env x → seen env y → σ (Str.ofString x) ≠ σ (Str.ofString y)) (hs : seen env v)
    (hr : ρ v = .own ds) (hσ : σ (Str.ofString v) = some (.ref b)) (hm : b ∈ own) (hk : ∀ c o, c ≠ b → h.get? c = some o → h'.get? c = some o) (g' : h'.get? b = some { cls := .type "list", data := .seq vs'.toArray k' })
    (r : RepAll h (own ++ ex) vs' ds') (hl : ds'.length ≤ 1048576) : StS W H env ex own (upd ρ v (.own ds')) h' := by
  refine e0_3 (N) fun zt31 hc hv => ?_
  refine e1_2 (zt31) fun m hn hmm => ?_
  have hbm : b ∈ own ++ ex := List.mem_append.mpr (.inl hm)
  have rk : ∀ {u : Value} {d : PyData}, Rep h (own ++ ex) u d → Rep h' (own ++ ex) u d := fun r => r.keep fun c o hc _ e => hk c o (fun z => hc (z ▸ hbm)) e
  have rkA : ∀ {u : List Value} {d : List PyData}, RepAll h (own ++ ex) u d → RepAll h' (own ++ ex) u d := fun r => r.keep fun c o hc _ e => hk c o (fun z => hc (z ▸ hbm)) e
  refine e0_2 (S.mineNe b hm) fun hbL hbC => ?_
  obtain ⟨_, xs0, k0, gb⟩ := S.mine b hm
  refine ⟨fun c o e => hk c o ?_ (S.grow c o e), ⟨σ, ⟨⟨m, hn.at' fun o e => hk _ o (Ne.symm hbL) e, hmm⟩, fun x hx => ?_, fun x hx => ?_⟩, fun x y es fs hne e1 e2 s1 s2 => ?_⟩, S.low, fun x c hx => ?_, S.apart, fun a ha => ?_⟩
  · rintro rfl; rw [(StS.mine S _ hm).1] at e; cases e
  · obtain ⟨c, h1, o, h2, h3⟩ := hc x hx
    exact ⟨c, h1, o, hk _ _ (fun z => hbC x c h1 z.symm) h2, h3⟩
  · have V := hv x hx
    by_cases e : x = v
    · subst e
      simp only [upd, if_pos]
      exact ⟨b, vs', k', hσ, hm, g', rkA r, hl⟩
    · simp only [upd, if_neg e]
      have hdx := fun es (e1 : ρ x = .own es) => hd x v es ds e e1 hr hx hs
      generalize ρ x = a at V hdx ⊢
      cases a with
      | no => trivial
      | val d => obtain ⟨u, e, r⟩ := V; exact ⟨u, e, rk r⟩
      | own es =>
        refine e3_5 (V) fun c vs k e hm1 g1 r l => ?_
        have hne : c ≠ b := by
          rintro rfl
          exact hdx es rfl (e.trans hσ.symm)
        exact ⟨c, vs, k, e, hm1, hk _ _ hne g1, rkA r, l⟩
      | cmp k =>
        obtain ⟨c, e, dx, hs', t, nn, u, g1, gd, hd, r⟩ := V
        refine ⟨c, e, dx, hs', t, nn, u, hk _ _ ?_ g1, hk _ _ ?_ gd, hd, rk r⟩
        · rintro rfl; rw [gb] at g1; cases g1
        · rintro rfl
          have hx := congrArg Obj.data (Option.some.inj (gb.symm.trans gd))
          cases hx
  · simp only [upd] at e1 e2
    by_cases ex' : x = v
    · have ey : y ≠ v := fun z => hne (ex'.trans z.symm)
      rw [if_neg ey] at e2
      subst ex'
      exact hd _ _ ds fs hne hr e2 s1 s2
    · rw [if_neg ex'] at e1
      by_cases ey : y = v
      · subst ey
        exact hd _ _ es ds hne e1 hr s1 s2
      · rw [if_neg ey] at e2
        exact hd _ _ es fs hne e1 e2 s1 s2
  · obtain ⟨h1, u, o, h2, h3⟩ := S.cells x c hx
    exact ⟨h1, u, o, hk _ _ (fun z => hbC x c hx z.symm) h2, h3⟩
  · obtain ⟨h1, xs, k, e⟩ := S.mine a ha
    by_cases e' : a = b
    · subst e'; exact ⟨h1, _, _, g'⟩
    · exact ⟨h1, xs, k, hk _ _ e' e⟩

set_option tactic.hygienic true in
theorem s_newOwn {v : String} : SP prog w W H C K n (.newOwn v) := fun A env ex own ρ ρ' s t o Q E c hc hv hQ => by
  refine invS_newOwn (P := fun t => wpAny (model prog w) A (exec t env) Q E s) (fun q1 q2 q3 hc => ?_) hc
  · refine e1_2 (nameB_of hc) fun p ze32 hs => ?_; subst ze32
    simp [exS_newOwn] at hv
    refine e0_2 (hv) fun ze33 ze34 => ?_; subst ze33; subst ze34
    refine wpAny_Assign_Name (List_ (args_nil (wpAny_newObj_type ?_)))
    have hb : s.heap.get? s.heap.objs.size = none := Grow.fresh (Nat.le_refl _)
    have g := Grow.push s.heap { cls := .type "list", data := .seq ([] : List Value).toArray }
    have S1 : StS W H env ex (s.heap.objs.size :: own) ρ (s.heap.push { cls := .type "list", data := .seq ([] : List Value).toArray }) := c.st.add hb g ⟨_, _, Heap.get?_push_size _ rfl⟩
    refine e1_2 (c.st.names) fun σ N hd => ?_
    refine store_ok (s := { s with heap := s.heap.push { cls := .type "list", data := .seq ([] : List Value).toArray } }) c.eo S1 (seen_of hs) (a := .own []) ⟨_, [], _, rfl, .head _, Heap.get?_push_size _ rfl, .nil, Nat.zero_le _⟩
      ⟨names_add N hb g, hd⟩ (fun ds e y es hy h1 h2 => fresh_own N hb y es h1 h2) fun h' tk S2 c2 _ => ?_
    refine hQ h' tk _ .next S2 ?_ (fun a ha => ?_) trivial
    · intro b' o' h1 h2 h3 e
      exact c2 b' o' h1 h2 (fun hm => (nomatch hm)) (g _ _ e)
    · rcases List.mem_cons.mp ha with rfl | ha
      · exact .inr hb
      · exact .inl ha

/-- an own list let go: it is a value now -/
theorem StS.freeze {env : Env} {ex own : List Addr} {ρ : Ro} {h : Heap} {v : String} {ds : List PyData} {b : Addr} {vs : List Value} {k : Nat} {σ : Str → Option Value}
    (S : StS W H env ex own ρ h) (exH : ∀ a ∈ ex, ∃ o, H.get? a = some o) (N : Names W.cc env ex own ρ h σ) (hd : ∀ x y ds es, x ≠ y → ρ x = .own ds → ρ y = .own es → seen env x → seen env y → σ (Str.ofString x) ≠ σ (Str.ofString y)) (hs : seen env v)
    (hr : ρ v = .own ds) (hσ : σ (Str.ofString v) = some (.ref b)) (hm : b ∈ own) (g : h.get? b = some { cls := .type "list", data := .seq vs.toArray k }) (r : RepAll h (own ++ ex) vs ds) (hl : ds.length ≤ 1048576) :
    StS W H env ex (own.filter (· ≠ b)) (upd ρ v .no) h ∧ Rep h (own.filter (· ≠ b) ++ ex) (.ref b) (.list ds) := by
  have sub : ∀ a, a ∈ own.filter (· ≠ b) ++ ex → a ∈ own ++ ex := fun a ha => by
    rcases List.mem_append.mp ha with ha | ha
    · exact List.mem_append.mpr (.inl (List.mem_filter.mp ha).1)
    · exact List.mem_append.mpr (.inr ha)
  have hbx : b ∉ own.filter (· ≠ b) ++ ex := fun ha => by
    rcases List.mem_append.mp ha with ha | ha
    · have := (List.mem_filter.mp ha).2; simp at this
    · refine e1_1 (exH b ha) fun o e => ?_
      rw [(StS.mine S b hm).1] at e; cases e
  refine e0_3 (N) fun zt35 hc hv => ?_
  refine e1_2 (zt35) fun m hn hmm => ?_
  refine ⟨⟨S.grow, ⟨σ, ⟨⟨m, hn, hmm⟩, hc, fun x hx => ?_⟩, fun x y es fs hne e1 e2 s1 s2 => ?_⟩, S.low, S.cells, S.apart, fun a ha => S.mine a (List.mem_filter.mp ha).1⟩, .list g hbx (Nat.le_trans hl (by rw [sizeLine_eq]; omega)) (r.less sub)⟩
  · have V := hv x hx
    by_cases e : x = v
    · simp only [upd, if_pos e]; trivial
    · simp only [upd, if_neg e]
      have hdx := fun es (e1 : ρ x = .own es) => hd x v es ds e e1 hr hx hs
      generalize ρ x = a at V hdx ⊢
      cases a with
      | no => trivial
      | val d => obtain ⟨u, e, r⟩ := V; exact ⟨u, e, r.less sub⟩
      | own es =>
        refine e3_5 (V) fun c vs k e hm1 g1 r l => ?_
        have hne : c ≠ b := by
          rintro rfl
          exact hdx es rfl (e.trans hσ.symm)
        exact ⟨c, vs, k, e, List.mem_filter.mpr ⟨hm1, by simpa using hne⟩, g1, r.less sub, l⟩
      | cmp k =>
        obtain ⟨c, e, dx, hs', t, nn, u, g1, gd, hd, r⟩ := V
        exact ⟨c, e, dx, hs', t, nn, u, g1, gd, hd, r.less sub⟩
  · simp only [upd] at e1 e2
    by_cases ex' : x = v
    · rw [if_pos ex'] at e1; cases e1
    · rw [if_neg ex'] at e1
      by_cases ey : y = v
      · rw [if_pos ey] at e2; cases e2
      · rw [if_neg ey] at e2
        exact hd _ _ es fs hne e1 e2 s1 s2

theorem own_at {env : Env} {ex own : List Addr} {ρ : Ro} {h : Heap} {v : String} {ds : List PyData} {σ : Str → Option Value} (N : Names W.cc env ex own ρ h σ) (hs : seen env v) (hr : ρ v = .own ds) :
    ∃ b vs k, σ (Str.ofString v) = some (.ref b) ∧ b ∈ own ∧ h.get? b = some { cls := .type "list", data := .seq vs.toArray k } ∧ RepAll h (own ++ ex) vs ds ∧ ds.length ≤ 1048576 := by
  have V := N.2.2 v hs
  rw [hr] at V
  exact V

set_option tactic.hygienic true in
theorem s_freeze {x v : String} : SP prog w W H C K n (.freeze x v) := fun A env ex own ρ ρ' s t o Q E c hc hv hQ => by
  refine invS_freeze (P := fun t => wpAny (model prog w) A (exec t env) Q E s) (fun q1 q2 q3 q4 hc => ?_) hc
  · simp only [Bool.and_eq_true, Bool.not_eq_true'] at hc
    refine l4 (hc) fun h1 h2 h3 h4 => ?_
    refine e1_2 (nameB_of h1) fun p ze36 hs => ?_; subst ze36
    have h2 := str_eq h2; subst h2
    dsimp only [exS_freeze] at hv
    first | refine oV hv fun ds hr hv => ?_ | refine oC hv fun ds hr hv => ?_ | refine oO hv fun ds hr hv => ?_ | refine oI hv fun ds hr hv => ?_ | refine oT hv fun ds hr hv => ?_ | refine opS2D hv fun ds hr hv => ?_ | refine opS2L hv fun ds hr hv => ?_ | refine opS2B hv fun ds hr hv => ?_ | refine opS2S hv fun ds hr hv => ?_
    · skip
      cases hv
      refine e1_2 (c.st.names) fun σ N hd => ?_
      refine e3_5 (own_at N (seen_of h3) hr) fun b vs k hσ hm g r l => ?_
      refine e0_2 (c.st.freeze c.exH N hd (seen_of h3) hr hσ hm g r l) fun S1 r1 => ?_
      refine wpAny_Assign_Name (wpAny_Name (N.get c.eo.kind (seen_of h3) hσ ?_) h4)
      refine store_val (c.to W H n (h' := s.heap) (tk := s.toks) S1) (seen_of hs) r1 fun h' tk S2 c2 => ?_
      refine hQ h' tk _ .next S2 ?_ (fun a ha => .inl (List.mem_filter.mp ha).1) trivial
      exact fun b' o' h1 h2 h3 e => c2 b' o' h1 h2 (fun hm' => h3 (List.mem_filter.mp hm').1) e

set_option tactic.hygienic true in
theorem s_append {v : String} {x : X} (hx : XE prog w W H C K n x) : SP prog w W H C K n (.append v x) := fun A env ex own ρ ρ' s t o Q E c hc hv hQ => by
  refine invS_append (P := fun t => wpAny (model prog w) A (exec t env) Q E s) (fun q1 q2 q3 q4 q5 q6 q7 hc => ?_) hc
  · simp only [Bool.and_eq_true, Bool.not_eq_true'] at hc
    refine l6 (hc) fun h1 h2 h3 h4 h5 h6 => ?_
    have h1 := str_eq h1; subst h1
    have h4 := str_eq h4; subst h4
    dsimp only [exS_append] at hv
    first | refine oV hv fun d hd hv => ?_ | refine oC hv fun d hd hv => ?_ | refine oO hv fun d hd hv => ?_ | refine oI hv fun d hd hv => ?_ | refine oT hv fun d hd hv => ?_ | refine opS2D hv fun d hd hv => ?_ | refine opS2L hv fun d hd hv => ?_ | refine opS2B hv fun d hd hv => ?_ | refine opS2S hv fun d hd hv => ?_
    · skip
      first | refine oV hv fun ds hr hv => ?_ | refine oC hv fun ds hr hv => ?_ | refine oO hv fun ds hr hv => ?_ | refine oI hv fun ds hr hv => ?_ | refine oT hv fun ds hr hv => ?_ | refine opS2D hv fun ds hr hv => ?_ | refine opS2L hv fun ds hr hv => ?_ | refine opS2B hv fun ds hr hv => ?_ | refine opS2S hv fun ds hr hv => ?_
      · skip
        refine if_el (fun hlen hv => ?_) hv
        · skip
          cases hv
          refine e1_2 (c.st.names) fun σ N hdd => ?_
          refine e3_5 (own_at N (seen_of h2) hr) fun b vs k hσ hm g r l => ?_
          have hint : interactive env = false := by unfold interactive; rw [c.eo.kind]; rfl
          refine wpAny_Expr ?_ hint
          refine meth_call rfl h5 (noStar (xs := [x]) _ (chXs1 h6)) (by simp) fun pl => ?_
          refine wpAny_Name (N.get c.eo.kind (seen_of h2) hσ ?_) h3
          refine Calls.getMethod_list_append g rfl rfl ?_
          refine PyProof.Rows.callWith_method1 (args_cons (hx A env ex own ρ s _ d _ _ (c.x W H n) h6 hd fun u h' tk gr ru => ?_) (star_cons (chX_star h6))) (star_cons (chX_star h6)) rfl
          refine args_nil ?_
          have hvl : vs.length = ds.length := r.length
          refine wpAny_list_append_plain (s := { s with heap := h', toks := tk }) (items := vs.toArray) (hsz := by rw [sizeLine_eq, List.size_toArray]; omega) ⟨k, gr _ _ g⟩ fun h'' hl'' hs'' => ?_
          refine e1_1 (hl'') fun k' hl'' => ?_
          have e1 : vs.toArray.push u = (vs ++ [u]).toArray := by simp
          rw [e1] at hl''
          have S1 := (c.st.up gr).setOwn (h' := h'') (N.grow gr) hdd (seen_of h2) hr hσ hm (fun c' o' hne e => hs''.extBut c' o' hne e) hl'' ((r.grow gr).append (.one ru)) (by rw [List.length_append, List.length_singleton]; omega)
          refine hQ h'' tk own .next S1 (fun b' o' h1 h2 h3 e => hs''.extBut b' o' (fun z => h3 (z ▸ hm)) (gr _ _ e)) (Newer.refl _ _) trivial

set_option tactic.hygienic true in
theorem s_pop {v : String} : SP prog w W H C K n (.pop v) := fun A env ex own ρ ρ' s t o Q E c hc hv hQ => by
  refine invS_pop (P := fun t => wpAny (model prog w) A (exec t env) Q E s) (fun q1 q2 q3 q4 q5 q6 hc => ?_) hc
  · simp only [Bool.and_eq_true, Bool.not_eq_true'] at hc
    refine l5 (hc) fun h1 h2 h3 h4 h5 => ?_
    have h1 := str_eq h1; subst h1
    have h4 := str_eq h4; subst h4
    dsimp only [exS_pop] at hv
    first | refine oV hv fun ds hr hv => ?_ | refine oC hv fun ds hr hv => ?_ | refine oO hv fun ds hr hv => ?_ | refine oI hv fun ds hr hv => ?_ | refine oT hv fun ds hr hv => ?_ | refine opS2D hv fun ds hr hv => ?_ | refine opS2L hv fun ds hr hv => ?_ | refine opS2B hv fun ds hr hv => ?_ | refine opS2S hv fun ds hr hv => ?_
    · skip
      first | refine oV hv fun x hlast hv => ?_ | refine oC hv fun x hlast hv => ?_ | refine oO hv fun x hlast hv => ?_ | refine oI hv fun x hlast hv => ?_ | refine oT hv fun x hlast hv => ?_ | refine opS2D hv fun x hlast hv => ?_ | refine opS2L hv fun x hlast hv => ?_ | refine opS2B hv fun x hlast hv => ?_ | refine opS2S hv fun x hlast hv => ?_
      · skip
        cases hv
        refine e1_2 (c.st.names) fun σ N hdd => ?_
        refine e3_5 (own_at N (seen_of h2) hr) fun b vs k hσ hm g r l => ?_
        have hint : interactive env = false := by unfold interactive; rw [c.eo.kind]; rfl
        refine wpAny_Expr ?_ hint
        refine meth_call rfl h5 rfl (by simp) fun pl => ?_
        refine wpAny_Name (N.get c.eo.kind (seen_of h2) hσ ?_) h3
        refine getMethod_builtin (s := s) ⟨_, g, rfl⟩ F.plainAttrs_list F.slot_list_pop F.type_list_pop (fun a e => by cases e; exact ⟨_, g, rfl⟩) ?_
        rw [List.getLast?_eq_getElem?] at hlast
        refine e1_2 (r.get hlast) fun u hu ru => ?_
        have hvl : vs.length = ds.length := r.length
        cases ru with
        | str _ tt hh =>
          refine P.pop_list (y := .str x tt) g (by rw [List.size_toArray, hvl]; simpa using hu) ?_ (by rw [sizeLine_eq, List.size_toArray]; omega)
          have e0 : vs.toArray.eraseIdxIfInBounds (vs.toArray.size - 1) = vs.dropLast.toArray := by
            have hv0 : vs ≠ [] := by
              rintro rfl
              have h9 : ds.length = 0 := by simpa using hvl.symm
              have h10 : ds = [] := List.length_eq_zero_iff.mp h9
              subst h10; simp at hlast
            obtain ⟨ys, y, rfl⟩ : ∃ ys y, vs = ys ++ [y] := ⟨_, _, (List.dropLast_concat_getLast hv0).symm⟩
            apply Array.toList_inj.mp
            rw [List.size_toArray, List.eraseIdxIfInBounds_toArray]
            simp [List.eraseIdx_append_of_length_le]
          have e1 : ∃ k', (Obj.mapSeq (fun xs => xs.eraseIdxIfInBounds (vs.toArray.size - 1)) { cls := .type "list", data := .seq vs.toArray k }) = { cls := .type "list", data := .seq (vs.toArray.eraseIdxIfInBounds (vs.toArray.size - 1)) k' } := ⟨_, rfl⟩
          refine e1_1 (e1) fun k' e1 => ?_
          rw [e0] at e1
          have g1 : (s.heap.update b (Obj.mapSeq fun xs => xs.eraseIdxIfInBounds (vs.toArray.size - 1))).get? b = some { cls := .type "list", data := .seq vs.dropLast.toArray k' } := by
            rw [← e1]; exact Heap.get?_update_self _ g rfl
          have S1 := c.st.setOwn (h' := s.heap.update b (Obj.mapSeq fun xs => xs.eraseIdxIfInBounds (vs.toArray.size - 1))) N hdd (seen_of h2) hr hσ hm (fun c' o' hne e => (Heap.get?_update_other _ _ hne.symm).trans e) g1 r.dropLast (by rw [List.length_dropLast]; omega)
          exact hQ _ s.toks own .next S1 (fun b' o' h1 h2 h3 e => (Heap.get?_update_other _ _ (fun z : b = b' => h3 (z ▸ hm))).trans e) (Newer.refl _ _) trivial
end
end Mine
end

section
open PySem PySem.W PyProof.Rows

namespace Mine
set_option tactic.hygienic false
section
variable {prog : Program} {w : World} {W : Wh} {H : Heap} {C : String → List PyData → Option PyData} {K : PyData → PyData → PyData → Option PyData} {n : Nat}

theorem Chg.seq {env : Env} {ex own : List Addr} {ρ : Ro} {h h' : Heap} (S : StS W H env ex own ρ h) (k : Chg env own h h') : ∀ b (o : Obj), b ∉ own ++ ex → (∃ xs n, o.data = .seq xs n) → h.get? b = some o → h'.get? b = some o := by
  intro b o hb ⟨xs, m, q⟩ e
  refine k b o ?_ (fun x c hx => ?_) (fun hm => hb (List.mem_append.mpr (.inl hm))) e
  · rintro rfl
    refine e4_3 (S.hL) fun zz o' es ep g' q' zz => ?_
    rw [e] at g'; cases g'; rw [q] at q'; cases q'
  · rintro rfl
    obtain ⟨_, v, o', g', q'⟩ := S.cells x b hx
    rw [e] at g'; cases g'; rw [q] at q'; cases q'
theorem Chg.rep {env : Env} {ex own : List Addr} {ρ : Ro} {h h' : Heap} {u : Value} {d : PyData} (S : StS W H env ex own ρ h) (k : Chg env own h h') (r : Rep h (own ++ ex) u d) : Rep h' (own ++ ex) u d := r.keep fun b o hb q e => k.seq S b o hb q e
theorem Chg.reps {env : Env} {ex own : List Addr} {ρ : Ro} {h h' : Heap} {u : List Value} {d : List PyData} (S : StS W H env ex own ρ h) (k : Chg env own h h') (r : RepAll h (own ++ ex) u d) : RepAll h' (own ++ ex) u d := r.keep fun b o hb q e => k.seq S b o hb q e

theorem bind_rev : ∀ {vs : List String} {ds : List PyData} {us : List Value} {A : Around} {env : Env} {ex own : List Addr} {ρ ρ' : Ro} {s : Shared} {Q : Unit → Shared → Prop} {E : Value → Shared → Prop}
    (_ : ∀ v ∈ vs, seen env v) (_ : CtxS W H n A env ex own ρ s) (_ : bindAll vs ds ρ = some ρ') (_ : RepAll s.heap (own ++ ex) us ds) (_ : ∀ h' tk, StS W H env ex own ρ' h' → Chg env own s.heap h' → Q () { s with heap := h', toks := tk }),
    wpAny (model prog w) A (assignInOrder ((vs.map Str.ofString).map fun n => bindName env n) us) Q E s
  | [], ds, us, A, env, ex, own, ρ, ρ', s, Q, E, hx, c, hb, r, hQ => by
    cases ds with
    | cons d ds => exact nos hb
    | nil =>
      cases r
      simp [bindAll_nil] at hb; subst hb
      exact wpAny_pure (hQ s.heap s.toks c.st fun _ _ _ _ _ e => e)
  | v :: vs, ds, us, A, env, ex, own, ρ, ρ', s, Q, E, hx, c, hb, r, hQ => by
    cases ds with
    | nil => exact nos hb
    | cons d ds =>
      cases r with
      | cons r1 rs =>
        simp only [bindAll_cons] at hb
        refine assignInOrder_cons (bindName_ (store_val c (hx v (.head _)) r1 fun h' tk S1 c1 => ?_))
        refine bind_rev (fun y hy => hx y (.tail _ hy)) (c.to W H n S1) hb (c1.reps c.st rs) fun h2 tk2 S2 c2 => ?_
        exact hQ h2 tk2 S2 (c1.trans (Newer.refl _ _) c2)

theorem namesB_names : ∀ {sc : Scope} {vs : List String} {ts : List Expr}, namesB sc vs ts = true → ∃ ps : List Pos, ts = List.zipWith (fun v p => Expr.Name (Str.ofString v) p) vs ps ∧ ps.length = vs.length ∧ ∀ v ∈ vs, seesB sc (Str.ofString v) = true
  | sc, [], ts, h => by
    simp [namesB] at h; subst h
    exact ⟨[], rfl, rfl, fun _ h => (nomatch h)⟩
  | sc, v :: vs, ts, h => by
    cases ts with
    | nil => simp [namesB] at h
    | cons t ts =>
      simp only [namesB, Bool.and_eq_true] at h
      refine e1_2 (nameB_of h.1) fun p ze37 hs => ?_; subst ze37
      refine e1_3 (namesB_names h.2) fun ps ze38 hl hv => ?_; subst ze38
      refine ⟨p :: ps, rfl, by simp [hl], fun y hy => ?_⟩
      rcases List.mem_cons.mp hy with rfl | hy
      · exact hs
      · exact hv y hy

theorem bind_names : ∀ {vs : List String} {ts : List Expr} {ds : List PyData} {us : List Value} {A : Around} {env : Env} {ex own : List Addr} {ρ ρ' : Ro} {s : Shared} {Q : Unit → Shared → Prop} {E : Value → Shared → Prop}
    (_ : namesB env.scope vs ts = true) (_ : CtxS W H n A env ex own ρ s) (_ : bindAll vs ds ρ = some ρ') (_ : RepAll s.heap (own ++ ex) us ds) (_ : ∀ h' tk, StS W H env ex own ρ' h' → Chg env own s.heap h' → Q () { s with heap := h', toks := tk }),
    wpAny (model prog w) A (assignInOrder ((assignEach ts env).map (·.2)) us) Q E s ∧ (assignEach ts env).length = us.length ∧ (assignEach ts env).findIdx? (·.1) = none
  | [], ts, ds, us, A, env, ex, own, ρ, ρ', s, Q, E, hx, c, hb, r, hQ => by
    simp [namesB] at hx; subst hx
    cases ds with
    | cons d ds => exact nos hb
    | nil =>
      cases r
      simp [bindAll_nil] at hb; subst hb
      exact ⟨wpAny_pure (hQ s.heap s.toks c.st fun _ _ _ _ _ e => e), rfl, rfl⟩
  | v :: vs, ts, ds, us, A, env, ex, own, ρ, ρ', s, Q, E, hx, c, hb, r, hQ => by
    cases ts with
    | nil => exact absurd hx Bool.false_ne_true
    | cons t ts =>
      simp only [namesB, Bool.and_eq_true] at hx
      refine e1_2 (nameB_of hx.1) fun p ze39 hs => ?_; subst ze39
      cases ds with
      | nil => exact nos hb
      | cons d ds =>
        cases r with
        | cons r1 rs =>
          simp only [bindAll_cons] at hb
          have key : ∀ h' tk (S1 : StS W H env ex own (upd ρ v (.val d)) h') (c1 : Chg env own s.heap h'), _ := fun h' tk S1 c1 =>
            bind_names (E := E) (s := { s with heap := h', toks := tk }) (Q := Q) hx.2 (c.to W H n S1) hb (c1.reps c.st rs) fun h2 tk2 S2 c2 => hQ h2 tk2 S2 (c1.trans (Newer.refl _ _) c2)
          refine ⟨assignInOrder_cons (PyProof.Rows.assign_Name (store_val c (seen_of hs) r1 fun h' tk S1 c1 => (key h' tk S1 c1).1)), ?_⟩
          refine e1_3 (namesB_names hx.2) fun ps ze40 hl zz => ?_; subst ze40
          have lens : ∀ (vs : List String) (ps : List Pos), ps.length = vs.length → (assignEach (List.zipWith (fun v p => Expr.Name (Str.ofString v) p) vs ps) env).length = vs.length ∧ (assignEach (List.zipWith (fun v p => Expr.Name (Str.ofString v) p) vs ps) env).findIdx? (·.1) = none := by
            intro vs
            induction vs with
            | nil => intro ps _; cases ps <;> exact ⟨rfl, rfl⟩
            | cons a vs ih =>
              intro ps hp
              cases ps with
              | nil => cases hp
              | cons q ps =>
                refine e0_2 (ih ps (by simpa using hp)) fun i1 i2 => ?_
                refine ⟨?_, ?_⟩
                · show (assignEach _ env).length + 1 = _; rw [i1]; rfl
                · show (((false, _) :: assignEach _ env).findIdx? fun x => x.1) = none
                  rw [List.findIdx?_cons]
                  simp only [Bool.false_eq_true, if_false]
                  rw [i2]; rfl
          have bl : ∀ (vs : List String) (ds : List PyData) (ρ ρ' : Ro), bindAll vs ds ρ = some ρ' → vs.length = ds.length := by
            intro vs
            induction vs with
            | nil => intro ds ρ ρ' h; cases ds with | nil => rfl | cons _ _ => exact nos h
            | cons a vs ih =>
              intro ds ρ ρ' h
              cases ds with
              | nil => exact nos h
              | cons d ds => simp only [bindAll_cons] at h; simp [ih _ _ _ h]
          refine e0_2 (lens vs ps hl) fun l1 l2 => ?_
          have l3 := bl vs ds _ _ hb
          refine ⟨?_, ?_⟩
          · show (assignEach _ env).length + 1 = _
            rw [l1, l3, List.length_cons, rs.length]
          · show (((false, _) :: assignEach _ env).findIdx? fun x => x.1) = none
            rw [List.findIdx?_cons]
            simp only [Bool.false_eq_true, if_false]
            rw [l2]; rfl

set_option tactic.hygienic true in
/-- a tuple taken apart into names -/
theorem unpack_ok {vs : List String} {ts : List Expr} {k : Nat} {pos : Pos} {d : PyData} {u : Value} {A : Around} {env : Env} {ex own : List Addr} {ρ ρ' : Ro} {s : Shared} {Q : Unit → Shared → Prop} {E : Value → Shared → Prop}
    (hx : namesB env.scope vs ts = true) (c : CtxS W H n A env ex own ρ s) (hb : unpackD vs d ρ = some ρ') (r : Rep s.heap (own ++ ex) u d) (hQ : ∀ h' tk, StS W H env ex own ρ' h' → Chg env own s.heap h' → Q () { s with heap := h', toks := tk }) :
    wpAny (model prog w) A (assign (.Tuple ts k pos) env u) Q E s := by
  unfold unpackD at hb
  split at hb
  · rename_i ds
    refine e2_5 (r.isTup) fun a us ze41 g rs l zz => ?_; subst ze41
    have key : ∀ h' (gr : Grow s.heap h'), _ := fun h' gr => bind_names (prog := prog) (w := w) (E := E) (Q := Q) (s := { s with heap := h' }) hx (c.up W H n (tk := s.toks) gr) hb (rs.grow gr) fun h2 tk2 S2 c2 => hQ h2 tk2 S2 ((gr.chg _ _).trans (Newer.refl _ _) c2)
    refine assign_Tuple_tuple c.room.handled g (by rw [List.size_toArray]; exact (key s.heap (Grow.refl _)).2.1) (key s.heap (Grow.refl _)).2.2 fun h' he => ?_
    refine (key h' fun b o e => he b o (Nat.ne_of_lt (Heap.lt_size e)) e).1
  · exact nos hb

theorem noSwapT {value : Expr} {ts : List Expr} {k : Nat} {p : Pos} {line : Nat} {env : Env} (h : isComp value = false) : swapsWithSole [.Tuple ts k p] value line env = pure false := by
  show swapsWith value (some (.Tuple ts k p)) line env = pure false
  exact noSwap h

theorem noStores {value : Expr} {ts : List Expr} {k : Nat} {p : Pos} {env : Env} (h : (!isTup value || (ts.length != 2 && ts.length != 3)) = true) : swappedStores [.Tuple ts k p] value env = pure none := by
  have key : ∀ es q r, value = .Tuple es q r → swappedStores [.Tuple ts k p] value env = pure none := by
    rintro es q r rfl
    have h : (ts.length != 2 && ts.length != 3) = true := h
    refine if_pos ?_
    refine and2 (fun h2 h3 => ?_) h
    have h1 : (ts.length == 2 || ts.length == 3) = false := by
      rw [Bool.or_eq_false_iff]; exact ⟨by simpa using h2, by simpa using h3⟩
    rw [h1]; rfl
  cases value <;> first | rfl | exact key _ _ _ rfl

set_option tactic.hygienic true in
theorem s_unpack {vs : List String} {x : X} (hx : XE prog w W H C K n x) : SP prog w W H C K n (.unpack vs x) := fun A env ex own ρ ρ' s t o Q E c hc hv hQ => by
  refine invS_unpack (P := fun t => wpAny (model prog w) A (exec t env) Q E s) (fun q1 q2 q3 q4 q5 hc => ?_) hc
  · rw [Bool.and_eq_true, Bool.and_eq_true, Bool.and_eq_true, Bool.and_eq_true, Bool.not_eq_true'] at hc
    refine l5 (hc) fun h1 h2 h3 h4 h5 => ?_
    dsimp only [exS_unpack] at hv
    first | refine oV hv fun d hd hv => ?_ | refine oC hv fun d hd hv => ?_ | refine oO hv fun d hd hv => ?_ | refine oI hv fun d hd hv => ?_ | refine oT hv fun d hd hv => ?_ | refine opS2D hv fun d hd hv => ?_ | refine opS2L hv fun d hd hv => ?_ | refine opS2B hv fun d hd hv => ?_ | refine opS2S hv fun d hd hv => ?_
    · skip
      first | refine opSD hv fun ρ1 hb hv => ?_ | refine opSL hv fun ρ1 hb hv => ?_ | refine opSR hv fun ρ1 hb hv => ?_
      · skip
        cases hv
        refine Assign_Tuple (hx A env ex own ρ s _ d _ _ (c.x W H n) h3 hd fun u h' tk g ru => ?_) (noSwapT h2) (noStores h4)
        refine unpack_ok h1 (c.up W H n g) hb ru fun h2' tk2 S2 c2 => ?_
        exact hQ h2' tk2 own .next S2 ((g.chg _ _).trans (Newer.refl _ _) c2) (Newer.refl _ _) trivial
end
end Mine
end

section
open PySem PySem.W PyProof.Rows

namespace Mine
set_option tactic.hygienic false
section
variable {prog : Program} {w : World} {W : Wh} {H : Heap} {C : String → List PyData → Option PyData} {K : PyData → PyData → PyData → Option PyData} {n : Nat}

set_option tactic.hygienic true in
theorem localsB_names : ∀ {env : Env} {line : Nat} {vs : List String} {ts : List Expr}, localsB env.scope line vs ts = true →
    (ts.filterMap fun | .Name id pos => if env.kindOf id == some .local && pos.line == line then some id else none | _ => none) = vs.map Str.ofString ∧ ts.length = vs.length ∧ ∀ v ∈ vs, seen env v
  | env, line, [], ts, h => by
    cases ts with
    | nil => exact ⟨rfl, rfl, fun _ h => (nomatch h)⟩
    | cons _ _ => exact absurd h Bool.false_ne_true
  | env, line, v :: vs, ts, h => by
    cases ts with
    | nil => exact absurd h Bool.false_ne_true
    | cons t ts =>
      obtain ⟨h1, h2⟩ := Bool.and_eq_true_iff.mp h
      obtain ⟨i1, i2, i3⟩ := localsB_names h2
      obtain ⟨id, p, rfl, h1⟩ : ∃ id p, t = .Name id p ∧ (id == Str.ofString v && seesB env.scope id && env.scope.names.lookup id == some .local && p.line == line) = true := p_Name_el (P := fun t => ∃ id p, t = .Name id p ∧ (id == Str.ofString v && seesB env.scope id && env.scope.names.lookup id == some .local && p.line == line) = true) (fun id p h1 => ⟨id, p, rfl, h1⟩) h1
      refine and4 (fun a1 a2 a3 a4 => ?_) h1
      · skip
        have a1 := str_eq a1; subst a1
        refine ⟨?_, by simp [i2], fun y hy => ?_⟩
        · have e : (env.kindOf (Str.ofString v) == some .local && p.line == line) = true := by
            rw [Bool.and_eq_true]; exact ⟨a3, a4⟩
          refine Eq.trans (List.filterMap_cons_some (l := ts) (a := .Name (Str.ofString v) p) (b := Str.ofString v) ?_) ?_
          · exact if_pos e
          · rw [i1]; rfl
        · rcases List.mem_cons.mp hy with rfl | hy
          · exact seen_of a2
          · exact i3 y hy

theorem lineOf_eq (ts : List Expr) : (ts.head?.map (·.pos.line)).getD 0 = lineOf ts := by cases ts <;> rfl

theorem swapped_ok {env : Env} {ts es : List Expr} {vs : List String} {k k2 : Nat} {p p2 : Pos} (hk : env.scope.kind = .function) (h1 : (ts.length == 2 || ts.length == 3) = true) (h2 : (es.length == ts.length) = true) (h3 : localsB env.scope (lineOf ts) vs ts = true)
    (h4 : (vs.map Str.ofString).eraseDups.length = vs.length) (h5 : es.all notStar = true) (h6 : es.all (foldedForSure 8) = false) (h7 : es.all (constantsAlone 8) = false) :
    swappedStores [.Tuple ts k p] (.Tuple es k2 p2) env = pure (some (vs.map Str.ofString)) := by
  obtain ⟨i1, i2, i3⟩ := localsB_names h3
  have b1 : (!(ts.length == 2 || ts.length == 3) || es.length != ts.length || env.blockKind != .function) = false := by
    have e1 : (es.length != ts.length) = false := by rw [bne, h2]; rfl
    have e2 : (env.blockKind != .function) = false := by unfold Env.blockKind; rw [hk]; rfl
    rw [h1, e1, e2]; rfl
  have b2 : (es.any fun | .Starred .. => true | _ => false) = false := by
    rw [List.any_eq_false]
    intro x hx
    have := List.all_eq_true.mp h5 x hx
    cases x <;> first | (simp; done) | cases this
  have b3 : ((vs.map Str.ofString).length != ts.length || (vs.map Str.ofString).eraseDups.length != (vs.map Str.ofString).length) = false := by
    rw [h4, List.length_map, i2]; simp
  rw [← lineOf_eq] at i1
  refine (if_neg (ne_true_of_eq_false b1)).trans ?_
  refine (if_neg (ne_true_of_eq_false b2)).trans ?_
  refine (if_neg (ne_true_of_eq_false (by rw [← i1] at b3; exact b3))).trans ?_
  refine (if_neg (ne_true_of_eq_false h6)).trans ?_
  refine (if_neg (ne_true_of_eq_false h7)).trans ?_
  exact congrArg (fun z => pure (some z)) i1

set_option tactic.hygienic true in
theorem s_swap {vs : List String} {xs : List X} (hx : ∀ x ∈ xs, XE prog w W H C K n x) : SP prog w W H C K n (.swap vs xs) := fun A env ex own ρ ρ' s t o Q E c hc hv hQ => by
  refine invS_swap (P := fun t => wpAny (model prog w) A (exec t env) Q E s) (fun ts k1 p1 es k2 p2 pos hc => ?_) hc
  · skip
    rw [Bool.and_eq_true, Bool.and_eq_true, Bool.and_eq_true, Bool.and_eq_true, Bool.and_eq_true, Bool.and_eq_true, Bool.and_eq_true, decide_eq_true_eq, Bool.not_eq_true', Bool.not_eq_true'] at hc
    obtain ⟨⟨⟨⟨⟨⟨⟨h1, h2⟩, h3⟩, h4⟩, h5⟩, h6⟩, h7⟩, h8⟩ := hc
    dsimp only [exS_swap] at hv
    first | refine oV hv fun ds hds hv => ?_ | refine oC hv fun ds hds hv => ?_ | refine oO hv fun ds hds hv => ?_ | refine oI hv fun ds hds hv => ?_ | refine oT hv fun ds hds hv => ?_ | refine opS2D hv fun ds hds hv => ?_ | refine opS2L hv fun ds hds hv => ?_ | refine opS2B hv fun ds hds hv => ?_ | refine opS2S hv fun ds hds hv => ?_
    · skip
      first | refine opSD hv fun ρ1 hb hv => ?_ | refine opSL hv fun ρ1 hb hv => ?_ | refine opSR hv fun ρ1 hb hv => ?_
      · skip
        cases hv
        obtain ⟨i1, i2, i3⟩ := localsB_names h3
        have hlen : ds.length = vs.length := by rw [evXs_len hds, chXs_len h8, eq_of_beq h2, i2]
        have l3 : vs.length ≤ 3 := by
          rw [Bool.or_eq_true, beq_iff_eq, beq_iff_eq, i2] at h1; omega
        refine Assign_Tuple_swapped (names := vs.map Str.ofString) (Tuple_ (args_ok hx (c.x W H n) h8 hds fun us h' tk g rs => ?_)) rfl (swapped_ok c.eo.kind h1 h2 h3 h4 h5 h6 h7)
        have hul : us.length = vs.length := by rw [rs.length, hlen]
        refine wpAny_newObj_type ?_ (by show us.toArray.size ≤ sizeLine; rw [sizeLine_eq, List.size_toArray]; omega)
        have e1 : (vs.map Str.ofString).length = us.toArray.size := by rw [List.length_map, List.size_toArray, hul]
        rw [e1]
        have gp := Grow.push h' { cls := .type "tuple", data := .seq us.toArray }
        refine unpackItems_tuple (s := { s with heap := h'.push { cls := .type "tuple", data := .seq us.toArray }, toks := tk }) c.room.handled ⟨_, Heap.get?_push_size _ rfl, rfl, _, rfl⟩ fun h2' he => ?_
        have g2 : Grow (h'.push { cls := .type "tuple", data := .seq us.toArray }) h2' := fun b o e => he b o (Nat.ne_of_lt (Heap.lt_size e)) e
        have G := (g.trans gp).trans g2
        rw [← List.map_reverse]
        refine bind_rev (s := { s with heap := h2', toks := tk }) (fun v hv => i3 v (List.mem_reverse.mp hv)) (c.up W H n G) hb (((rs.grow gp).grow g2).reverse) fun h3' tk3 S3 c3 => ?_
        exact hQ h3' tk3 own .next S3 ((G.chg _ _).trans (Newer.refl _ _) c3) (Newer.refl _ _) trivial

set_option tactic.hygienic true in
theorem s_swapOwn {v x : String} {e : X} (he : XE prog w W H C K n e) : SP prog w W H C K n (.swapOwn v x e) := fun A env ex own ρ ρ' s t o Q E c hc hv hQ => by
  refine invS_swapOwn (P := fun t => wpAny (model prog w) A (exec t env) Q E s) (fun ts k1 p1 lp e' k2 tp pos hc => ?_) hc
  · skip
    simp only [Bool.and_eq_true, decide_eq_true_eq, Bool.not_eq_true'] at hc
    obtain ⟨⟨⟨⟨⟨h1, h2⟩, h3⟩, h4⟩, h5⟩, h6⟩ := hc
    dsimp only [exS_swapOwn] at hv
    first | refine opSD hv fun d hd hv => ?_ | refine opSL hv fun d hd hv => ?_ | refine opSR hv fun d hd hv => ?_
    · skip
      cases hv
      obtain ⟨i1, i2, i3⟩ := localsB_names h1
      have sv : seen env v := i3 v (.head _)
      have sx : seen env x := i3 x (.tail _ (.head _))
      have hne : v ≠ x := by
        rintro rfl
        simp [List.eraseDups_cons] at h2
      refine Assign_Tuple_swapped (names := [v, x].map Str.ofString) (Tuple_ (args_cons (List_ (args_nil (wpAny_newObj_type ?_))))) rfl
        (swapped_ok c.eo.kind (by rw [i2]; rfl) (by rw [i2]; rfl) h1 (by simpa using h2) (by simp [List.all_cons, h3]; rfl) (by simp [List.all_cons, h5]) (by simp [List.all_cons, h6]))
      have hb : s.heap.get? s.heap.objs.size = none := Grow.fresh (Nat.le_refl _)
      have g := Grow.push s.heap { cls := .type "list", data := .seq ([] : List Value).toArray }
      generalize hbe : s.heap.objs.size = b at *
      have gb : (s.heap.push { cls := .type "list", data := .seq ([] : List Value).toArray }).get? b = some { cls := .type "list", data := .seq ([] : List Value).toArray } := by rw [← hbe]; exact Heap.get?_push_size _ rfl
      generalize hh1 : s.heap.push { cls := .type "list", data := .seq ([] : List Value).toArray } = h1' at *
      obtain ⟨σ, N, hdd⟩ := c.st.names
      have S1 : StS W H env ex (b :: own) ρ h1' := c.st.add hb g ⟨_, _, gb⟩
      have c1 : CtxS W H n A env ex (b :: own) ρ { s with heap := h1', toks := s.toks } := ⟨c.room, c.eo, S1, c.exH⟩
      refine args_cons (he A env ex (b :: own) ρ { s with heap := h1' } _ d _ _ (c1.x W H n) h4 hd fun u h2' tk2 g2 ru => ?_) (star_cons (chX_star h4))
      refine args_nil (wpAny_newObj_type ?_ (by show (2 : Nat) ≤ sizeLine; rw [sizeLine_eq]; omega))
      have gp := Grow.push h2' { cls := .type "tuple", data := .seq [Value.ref b, u].toArray }
      refine unpackItems_tuple (items := [Value.ref b, u].toArray) (s := { s with heap := h2'.push { cls := .type "tuple", data := .seq [Value.ref b, u].toArray }, toks := tk2 }) c.room.handled ⟨_, Heap.get?_push_size _ rfl, rfl, _, rfl⟩ fun h3' he3 => ?_
      have g3 : Grow (h2'.push { cls := .type "tuple", data := .seq [Value.ref b, u].toArray }) h3' := fun b o e => he3 b o (Nat.ne_of_lt (Heap.lt_size e)) e
      have G := (g2.trans gp).trans g3
      show wpAny (model prog w) A (assignInOrder [fun y => bindName env (Str.ofString x) y, fun y => bindName env (Str.ofString v) y] [u, .ref b]) _ _ _
      have cG := c1.up W H n (tk := tk2) G
      have NG : Named W.cc env ex (b :: own) ρ h3' σ := ⟨names_add N hb (g.trans G), hdd⟩
      refine assignInOrder_cons (bindName_ (store_ok (s := { s with heap := h3', toks := tk2 }) c.eo cG.st sx (a := .val d) ⟨u, rfl, (ru.grow gp).grow g3⟩ NG (fun ds e => by cases e) fun h4' tk4 S4 c4 N4 => ?_))
      have gb4 : h4'.get? b = some { cls := .type "list", data := .seq ([] : List Value).toArray } := c4 b _ ((S1.mineNe b (.head _)).1) ((S1.mineNe b (.head _)).2) (fun hm => (nomatch hm)) (G _ _ gb)
      refine assignInOrder_cons (bindName_ (store_ok (s := { s with heap := h4', toks := tk4 }) c.eo S4 sv (a := .own []) ⟨b, [], 0, rfl, .head _, gb4, .nil, Nat.zero_le _⟩ N4 (fun ds _ y es hy h1 h2 => ?_) fun h5' tk5 S5 c5 _ => ?_))
      · have hyx : y ≠ x := by rintro rfl; simp [upd] at h1
        have e' : Str.ofString y ≠ Str.ofString x := fun z => hyx (ofString_inj z)
        simp only [upd, if_neg hyx] at h1
        simp only [if_neg e']
        exact fresh_own N hb y es h1 h2
      · refine assignInOrder_nil (hQ h5' tk5 (b :: own) .next S5 (fun b' o' h1 h2 h3 e => c5 b' o' h1 h2 (fun hm => (nomatch hm)) (c4 b' o' h1 h2 (fun hm => (nomatch hm)) (G _ _ (g _ _ e)))) (fun a ha => ?_) trivial)
        rcases List.mem_cons.mp ha with rfl | ha
        · exact .inr hb
        · exact .inl ha
end
end Mine
end

section
open PySem PySem.W PyProof.Rows

namespace Mine
set_option tactic.hygienic false
section
variable {prog : Program} {w : World} {W : Wh} {H : Heap} {C : String → List PyData → Option PyData} {K : PyData → PyData → PyData → Option PyData} {n : Nat}

set_option tactic.hygienic true in
theorem s_swapComp (W' : WdOk prog w W H) (hK : CmpOk prog w W H K n) {v x : String} {e : X} (he : XE prog w W H C K n e) : SP prog w W H C K n (.swapComp v x e) := fun A env ex own ρ ρ' s t o Q E c hc hv hQ => by
  refine invS_swapComp (P := fun t => wpAny (model prog w) A (exec t env) Q E s) (fun ts k1 p1 lp cn np k' cp k2 tp pos hc => ?_) hc
  · skip
    simp only [Bool.and_eq_true, decide_eq_true_eq] at hc
    obtain ⟨⟨⟨⟨h1, h2⟩, h3⟩, h4⟩, h5⟩ := hc
    have h3 := str_eq h3; subst h3
    dsimp only [exS_swapComp] at hv
    first | refine opSD hv fun d hd hv => ?_ | refine opSL hv fun d hd hv => ?_ | refine opSR hv fun d hd hv => ?_
    · skip
      cases hv
      obtain ⟨i1, i2, i3⟩ := localsB_names h1
      have sv : seen env v := i3 v (.head _)
      have sx : seen env x := i3 x (.tail _ (.head _))
      have f1 : ([PySem.Expr.List [] lp, .Call (.Name (Str.ofString "TupleComp") np) [k'] [] cp].all (foldedForSure 8)) = false := by
        simp only [List.all_cons, List.all_nil, Bool.and_true]
        rw [show foldedForSure 8 (.Call (.Name (Str.ofString "TupleComp") np) [k'] [] cp) = false from rfl, Bool.and_false]
      have f2 : ([PySem.Expr.List [] lp, .Call (.Name (Str.ofString "TupleComp") np) [k'] [] cp].all (constantsAlone 8)) = false := by
        simp only [List.all_cons, List.all_nil, Bool.and_true]
        rw [show constantsAlone 8 (.Call (.Name (Str.ofString "TupleComp") np) [k'] [] cp) = false from rfl, Bool.and_false]
      refine Assign_Tuple_swapped (names := [v, x].map Str.ofString) (Tuple_ (args_cons (List_ (args_nil (wpAny_newObj_type ?_))))) rfl
        (swapped_ok c.eo.kind (by rw [i2]; rfl) (by rw [i2]; rfl) h1 (by simpa using h2) rfl f1 f2)
      have g := Grow.push s.heap { cls := .type "list", data := .seq ([] : List Value).toArray }
      have c1 := c.up W H n (tk := s.toks) g
      have hbo : s.heap.objs.size ∉ own ++ ex := (c.x W H n).old.fresh (Nat.le_refl _)
      have rb : Rep (s.heap.push { cls := .type "list", data := .seq ([] : List Value).toArray }) (own ++ ex) (.ref s.heap.objs.size) (.list []) := .list (vs := []) (Heap.get?_push_size _ rfl) hbo (Nat.zero_le _) .nil
      refine args_cons (Call_ (glob_def (W' := W') (c1.x W H n) h4 hK.cls (by decide +kernel) ?_))
      refine hK.with_ _ _ _ _ _ _ _ (star_cons (chX_star h5)) ?_
      refine he A env ex own ρ _ _ d _ _ (c1.x W H n) h5 hd fun u h2' tk2 g2 ru => ⟨c.st.grow.trans (g.trans g2), ?_⟩
      obtain ⟨m0, hL0⟩ := c.st.hL
      have hL : ∃ o, h2'.get? env.locals = some o := by
        obtain ⟨o, es, ep, e, _⟩ := hL0
        exact ⟨o, g2 _ _ (g _ _ e)⟩
      refine hK.make _ _ _ _ (own ++ ex) env.locals _ _ c.room (c.st.grow.trans (g.trans g2)) ((c1.x W H n).old.up g2) ru hL fun h3' tk3 b g3 cm => ?_
      refine args_nil (wpAny_newObj_type ?_ (by show (2 : Nat) ≤ sizeLine; rw [sizeLine_eq]; omega))
      generalize hbe : s.heap.objs.size = l at *
      have gp := Grow.push h3' { cls := .type "tuple", data := .seq [Value.ref l, .ref b].toArray }
      refine unpackItems_tuple (items := [Value.ref l, .ref b].toArray) (s := { s with heap := h3'.push { cls := .type "tuple", data := .seq [Value.ref l, .ref b].toArray }, toks := tk3 }) c.room.handled ⟨_, Heap.get?_push_size _ rfl, rfl, _, rfl⟩ fun h4' he4 => ?_
      have g4 : Grow (h3'.push { cls := .type "tuple", data := .seq [Value.ref l, .ref b].toArray }) h4' := fun b o e => he4 b o (Nat.ne_of_lt (Heap.lt_size e)) e
      have G3 := g.trans (g2.trans g3)
      have G := (G3.trans gp).trans g4
      show wpAny (model prog w) A (assignInOrder [fun y => bindName env (Str.ofString x) y, fun y => bindName env (Str.ofString v) y] [.ref b, .ref l]) _ _ _
      have cG := c.up W H n (tk := tk3) G
      obtain ⟨σ, N⟩ := cG.st.names
      have hLn : ∃ m, h3'.Ns env.locals m := ⟨m0, hL0.keeps G3⟩
      have cm4 : CmpAt W.cc h4' (own ++ ex) env.locals b d := cm.pres ((gp.trans g4).pres _) hLn
      refine assignInOrder_cons (bindName_ (store_ok (s := { s with heap := h4', toks := tk3 }) c.eo cG.st sx (a := .cmp d) ⟨b, rfl, cm4⟩ N (fun ds e => by cases e) fun h5' tk5 S5 c5 _ => ?_))
      have rb5 : Rep h5' (own ++ ex) (.ref l) (.list []) := (c5.any (own := own)).rep cG.st ((((rb.grow g2).grow g3).grow gp).grow g4)
      refine assignInOrder_cons (bindName_ (store_val (c.to W H n (tk := tk5) S5) sv rb5 fun h6' tk6 S6 c6 => ?_))
      refine assignInOrder_nil (hQ h6' tk6 own .next S6 ?_ (Newer.refl _ _) trivial)
      exact ((G.chg env own).trans (Newer.refl _ _) c5.any).trans (Newer.refl _ _) c6

set_option tactic.hygienic true in
theorem s_assignC {v : String} {e : X} (he : XE prog w W H C K n e) (hsub : ∀ elt y src cond, e = .comp elt y src cond → XE prog w W H C K n src ∧ XE prog w W H C K n elt ∧ XT prog w W H C K n cond)
    (hsubR : ∀ elt y k, e = .compR elt y k → XE prog w W H C K n elt ∧ XT prog w W H C K n .nil) (W' : WdOk prog w W H) : SP prog w W H C K n (.assignC v e) := fun A env ex own ρ ρ' s t o Q E c hc hv hQ => by
  refine invS_assignC (P := fun t => wpAny (model prog w) A (exec t env) Q E s) (fun id p el gs cs cp pos hc => ?_) hc
  · skip
    simp only [Bool.and_eq_true, Bool.not_eq_true'] at hc
    obtain ⟨⟨⟨⟨⟨h1, h2⟩, h3⟩, h4⟩, h5⟩, h6⟩ := hc
    have h1 := str_eq h1; subst h1
    have hloc : env.kindOf (Str.ofString v) = some .local := eq_of_beq h3
    have hsw : swapsWith (.ListComp el gs cs cp) (some (.Name (Str.ofString v) p)) pos.line env = pure true := by
      unfold swapsWith
      have e1 : (env.blockKind == ScopeKind.function && env.kindOf (Str.ofString v) == some .local && p.line == (PySem.Expr.ListComp el gs cs cp).pos.line && !(cs.names.any fun (n, k) => n == Str.ofString v && (k == .local || k == .cell))) = true := by
        rw [Bool.and_eq_true, Bool.and_eq_true, Bool.and_eq_true, Bool.not_eq_true']
        refine ⟨⟨⟨?_, h3⟩, h4⟩, h5⟩
        unfold Env.blockKind; rw [c.eo.kind]; rfl
      show pure _ = pure true
      exact congrArg pure e1
    dsimp only [exS_assignC] at hv
    first | refine opSD hv fun d hd hv => ?_ | refine opSL hv fun d hd hv => ?_ | refine opSR hv fun d hd hv => ?_
    · skip
      cases hv
      rw [exec_Assign_Name_used _ _ _ _ hsw]
      refine wpAny_bind (wpAny_standAt (wpAny_bind ?_))
      have fin : ∀ D Cc h' tk m', s.heap.get? Cc = none → Grow s.heap h' → h'.Ns Cc m' → Rep h' (own ++ ex) (.ref D) d → D ≠ Cc →
          compPost (model prog w) A E (some (assign (.Name (Str.ofString v) p) env)) (fun _ s' => Q .next s') (.ref D) Cc (.ok .next) { s with heap := h', toks := tk } := by
        intro D Cc h' tk m' hC g hn r hDC
        obtain ⟨σ, ⟨⟨m, hns, hm⟩, hcl, hvs⟩, hdist⟩ := c.st.names
        have hLC : env.locals ≠ Cc := by
          rintro z
          obtain ⟨o, es, ep, e, _⟩ := hns
          rw [z, hC] at e; cases e
        have hp : (env.scope.kind == .class || (env.scope.kind == .module && env.locals != env.globals)) = false := by rw [c.eo.kind]; rfl
        show wpAny _ A (assign (.Name (Str.ofString v) p) env (.ref D)) _ _ _
        refine wpAny_assign_Name (wpAny_storeName_local hloc (hns.keeps g) (fun h2 hn2 hs2 => ?_) hp)
        refine ⟨m', hn.sameBut hs2 (Ne.symm hLC), fun h3 hs3 => ?_⟩
        have hk : ∀ b o, b ≠ env.locals → s.heap.get? b = some o → h3.get? b = some o := fun b o hb e => hs3.extBut b o (by rintro rfl; exact nsm hC e) (hs2.extBut b o hb (g b o e))
        have notNs : ∀ {hh : Heap} {b : Addr} {o : Obj} {mm : Str → Option Value} {L : Addr}, hh.Ns L mm → (∃ xs n, o.data = .seq xs n) → hh.get? b = some o → b ≠ L := by
          rintro hh b o mm L ⟨o', es, ep, g', q', _⟩ ⟨xs, n, q⟩ e rfl
          rw [e] at g'; cases g'; rw [q] at q'; cases q'
        have r3 : Rep h3 (own ++ ex) (.ref D) d := (r.keep fun b o _ q e => hs2.extBut b o (notNs (hns.keeps g) q e) e).keep fun b o _ q e => hs3.extBut b o (notNs (hn.sameBut hs2 (Ne.symm hLC)) q e) e
        obtain ⟨S3, _⟩ := set_local c.st hloc hns hm hcl hvs hdist (a := .val d) (v := .ref D) (fun ds e => by cases e) hk (hn2.sameBut hs3 hLC) ⟨_, rfl, r3⟩
        exact hQ h3 _ own .next S3 (fun b o hb _ _ e => hk b o hb e) (Newer.refl _ _) trivial
      have hc0 := h6
      cases e with
      | comp elt y src cond =>
        obtain ⟨x1, x2, x3⟩ := hsub elt y src cond rfl
        obtain ⟨_, _, _, _, _, _, _, e0⟩ := exX_comp h6
        cases e0
        · refine wpAny_mono (Q := fun _ s' => Q .next s') ?_ (fun _ s' h => wpAny_pure h) fun _ _ x => x
          rw [arm_evalThenUse_ListComp]
          exact wpAny_bind (wpAny_mono (c_compG (c.x W H n) x1 x2 x3 hc0 hd fin) (fun _ _ h => wpAny_pure h) fun _ _ x => x)
      | compR elt y k =>
        obtain ⟨x1, x2⟩ := hsubR elt y k rfl
        obtain ⟨_, _, _, _, _, _, _, _, _, _, _, e0⟩ := exX_compR h6
        cases e0
        · refine wpAny_mono (Q := fun _ s' => Q .next s') ?_ (fun _ s' h => wpAny_pure h) fun _ _ x => x
          rw [arm_evalThenUse_ListComp]
          exact wpAny_bind (wpAny_mono (c_compRG W' (c.x W H n) x1 x2 hc0 hd fin) (fun _ _ h => wpAny_pure h) fun _ _ x => x)
      | _ => exact absurd h6 Bool.false_ne_true
end
end Mine
end

section
open PySem PySem.W PyProof.Rows

namespace Mine
set_option tactic.hygienic false

theorem bindAll_some {vs : List String} {ds : List PyData} {ρ ρ' : Ro} (h : bindAll vs ds ρ = some ρ') : True := trivial

/-- an iterator of a for loop, whose tuples may be its own -/
structure WkF (prog : Program) (w : World) (A : Around) (h0 : Heap) (exx : List Addr) (I : Addr) (wr : List Addr) (ds : List PyData) (tgt : Expr) (St : Nat → Heap → Prop) (Mid : Nat → Value → Heap → Prop) : Prop where
  frame : ∀ i h h', St i h → Kp exx h0 h' → (∀ b ∈ wr, ∀ o, h.get? b = some o → h'.get? b = some o) → St i h'
  flds : ∀ i h, St i h → ∀ b ∈ wr, ∃ o vs, h.get? b = some o ∧ o.data = .fields vs
  fldsM : ∀ i v h, Mid i v h → ∀ b ∈ wr, ∃ o vs, h.get? b = some o ∧ o.data = .fields vs
  item : ∀ i d (s : Shared) (Q : Option Value → Shared → Prop) (E : Value → Shared → Prop), ds[i]? = some d → St i s.heap →
    (∀ v h' tk, (∀ exx', (∀ a ∈ exx', (a ∈ exx ∨ h0.get? a = none) ∧ ∃ o, s.heap.get? a = some o) → Rep h' exx' v d) → Mid i v h' → (∀ b o, b ∉ wr → s.heap.get? b = some o → h'.get? b = some o) → Q (some v) { s with heap := h', toks := tk }) →
    wpAny (model prog w) A (pyNext (.ref I)) Q E s
  go : ∀ i v (s : Shared) (Q : Unit → Shared → Prop) (E : Value → Shared → Prop), Mid i v s.heap → (∀ h', St (i + 1) h' → (∀ b o, b ∉ wr → s.heap.get? b = some o → h'.get? b = some o) → Q () { s with heap := h' }) →
    wpAny (model prog w) A (letOwnedTupleGo tgt (.ref I) v) Q E s
  done : ∀ (s : Shared) (Q : Option Value → Shared → Prop) (E : Value → Shared → Prop), St ds.length s.heap →
    (∀ h' tk, (∀ b o, b ∉ wr → s.heap.get? b = some o → h'.get? b = some o) → Q none { s with heap := h', toks := tk }) → wpAny (model prog w) A (pyNext (.ref I)) Q E s

theorem Wk.toF {prog : Program} {w : World} {A : Around} {h0 : Heap} {exx : List Addr} {I : Addr} {wr : List Addr} {ds : List PyData} {St : Nat → Heap → Prop} (W : Wk prog w A h0 exx I wr ds St) (tgt : Expr) :
    WkF prog w A h0 exx I wr ds tgt St (fun i _ h => St (i + 1) h) where
  frame := W.frame
  flds := W.flds
  fldsM := fun i _ h st => W.flds (i + 1) h st
  item := fun i d s Q E hd st hQ => W.item i d s Q E hd st fun v h' tk r st' k => hQ v h' tk r st' k
  go := fun i v s Q E st hQ => W.go tgt v (i + 1) s Q E st (hQ s.heap st fun _ _ _ e => e)
  done := W.done

section
variable {prog : Program} {w : World} {W : Wh} {H : Heap} {C : String → List PyData → Option PyData} {K : PyData → PyData → PyData → Option PyData} {n : Nat}

set_option tactic.hygienic true in
theorem s_whl {x : X} {a : List S} (hx : XT prog w W H C K n x) (ha : SPs prog w W H C K n a) : SP prog w W H C K n (.whl x a) := fun A env ex own ρ ρ' s t o Q E c hc hv hQ => by
  refine invS_whl (P := fun t => wpAny (model prog w) A (exec t env) Q E s) (fun t' a' pos hc => ?_) hc
  · skip
    simp only [Bool.and_eq_true] at hc
    dsimp only [exS_whl] at hv
    refine wpAny_While (codeAny_whileLoop (fun k s' => ∃ h tk own1 ρ1, s' = { s with heap := h, toks := tk } ∧ StS W H env ex own1 ρ1 h ∧ Chg env own s.heap h ∧ Newer own own1 s.heap ∧
      whileD (fun ρ => evT C K ρ x (evX C K ρ x)) (fun ρ => exSs C K a ρ) k ρ1 = some (o, ρ')) ?_ WN ⟨s.heap, s.toks, own, ρ, rfl, c.st, fun _ _ _ _ _ e => e, Newer.refl _ _, hv⟩)
    rintro k s' ⟨h, tk, own1, ρ1, rfl, S1, c1, n1, hw⟩
    cases k with
    | zero => simp [whileD_zero] at hw
    | succ k =>
      simp only [whileD_succ] at hw
      have cx : CtxS W H n A env ex own1 ρ1 { s with heap := h, toks := tk } := c.to W H n S1
      split at hw
      · exact nos hw
      · rename_i hb
        cases hw
        refine hx A env ex own1 ρ' _ _ false _ _ (cx.x W H n) hc.1 hb fun h' tk' g => ?_
        simp only [Bool.false_eq_true, if_false]
        exact wpAny_execs_nil (hQ h' tk' own1 .next (S1.up g) (c1.trans n1 (g.chg _ _)) n1 trivial)
      · rename_i hb
        refine hx A env ex own1 ρ1 _ _ true _ _ (cx.x W H n) hc.1 hb fun h' tk' g => ?_
        simp only [if_true]
        have cg := cx.up W H n (tk := tk') g
        have c1' : Chg env own s.heap h' := c1.trans n1 (g.chg _ _)
        split at hw
        · exact nos hw
        · rename_i ρ2 hb2
          refine ha A env ex own1 ρ1 ρ2 _ a' .next _ _ cg hc.2 hb2 fun h2 tk2 own2 fl S2 c2 n2 f => ?_
          cases fl <;> first | cases f | skip
          exact ⟨k, by omega, h2, tk2, own2, ρ2, rfl, S2, c1'.trans n1 c2, n1.trans c1' n2 S2.mineNe, hw⟩
        · rename_i ρ2 hb2
          refine ha A env ex own1 ρ1 ρ2 _ a' .cont _ _ cg hc.2 hb2 fun h2 tk2 own2 fl S2 c2 n2 f => ?_
          cases fl <;> first | cases f | skip
          exact ⟨k, by omega, h2, tk2, own2, ρ2, rfl, S2, c1'.trans n1 c2, n1.trans c1' n2 S2.mineNe, hw⟩
        · rename_i ρ2 hb2
          cases hw
          refine ha A env ex own1 ρ1 ρ' _ a' .brk _ _ cg hc.2 hb2 fun h2 tk2 own2 fl S2 c2 n2 f => ?_
          cases fl <;> first | cases f | skip
          exact hQ h2 tk2 own2 .next S2 (c1'.trans n1 c2) (n1.trans c1' n2 S2.mineNe) trivial
        · rename_i d ρ2 hb2
          cases hw
          refine ha A env ex own1 ρ1 ρ' _ a' (.ret d) _ _ cg hc.2 hb2 fun h2 tk2 own2 fl S2 c2 n2 f => ?_
          cases fl with
          | ret v => exact hQ h2 tk2 own2 (.ret v) S2 (c1'.trans n1 c2) (n1.trans c1' n2 S2.mineNe) f
          | _ => exact f.elim

set_option tactic.hygienic true in
/-- a for loop over what reads ds -/
theorem for_core {tgt : Expr} {a : List S} {a' : List Stmt} {f : PyData → Ro → Option Ro} {A : Around} {env : Env} {ex own : List Addr} {ρ ρ' : Ro} {s : Shared} {h0 : Heap} {tk0 : Nat} {o : Fl} {Q : Flow → Shared → Prop} {R : Result → Shared → Prop}
    {I : Addr} {wr : List Addr} {ds : List PyData} {St : Nat → Heap → Prop} {Mid : Nat → Value → Heap → Prop} (c : CtxS W H n A env ex own ρ s) (ha : SPs prog w W H C K n a) (hc : chSs env.scope a a' = true)
    (hbind : ∀ (d : PyData) (ρ ρ1 : Ro) (own : List Addr) (s : Shared) (u : Value) (Q : Unit → Shared → Prop) (E : Value → Shared → Prop), CtxS W H n A env ex own ρ s → f d ρ = some ρ1 → Rep s.heap (own ++ ex) u d →
      (∀ h' tk, StS W H env ex own ρ1 h' → Chg env own s.heap h' → Q () { s with heap := h', toks := tk }) → wpAny (model prog w) A (assign tgt env u) Q E s)
    (g0 : Grow s.heap h0) (Wt : WkF prog w A h0 (own ++ ex) I wr ds tgt St Mid) (st0 : St 0 h0) (hwr : ∀ b ∈ wr, s.heap.get? b = none)
    (hv : forD f (fun ρ => exSs C K a ρ) ds ρ = some (o, ρ')) (hQ : PostS W H env ex own s o ρ' Q) (hR : ∀ fl s', Q fl s' → R (.ok fl) s') :
    codeAny (model prog w) A (.forLoop tgt (.ref I) a' [] env) R { s with heap := h0, toks := tk0 } := by
  have hwH : ∀ b ∈ wr, H.get? b = none := fun b hb => by
    cases e : H.get? b with
    | none => rfl
    | some o => have := c.st.grow b o e; rw [hwr b hb] at this; cases this
  have S0 := c.st.up g0
  refine codeAny_forLoop_any
    (fun k s' => ∃ h tk i own1 ρ1, s' = { s with heap := h, toks := tk } ∧ St i h ∧ StS W H env ex own1 ρ1 h ∧ Newer own own1 h0 ∧ i ≤ ds.length ∧ k = ds.length + 1 - i ∧ forD f (fun ρ => exSs C K a ρ) (ds.drop i) ρ1 = some (o, ρ') ∧
      (∀ b o, b ≠ env.locals → (∀ x c, env.cells.lookup x = some c → b ≠ c) → b ∉ own → b ∉ wr → h0.get? b = some o → h.get? b = some o)) ?_ (ds.length + 1)
    ⟨h0, tk0, 0, own, ρ, rfl, st0, S0, Newer.refl _ _, Nat.zero_le _, rfl, hv, fun _ _ _ _ _ _ e => e⟩
  rintro k s' ⟨h, tk, i, own1, ρ1, rfl, hst, S1, n1, hi, rfl, hf, hk⟩
  have newerS : ∀ own2 : List Addr, Newer own own2 h0 → Newer own own2 s.heap := fun own2 n2 a ha => (n2 a ha).elim .inl fun z => .inr (by
    cases e : s.heap.get? a with
    | none => rfl
    | some o => rw [g0 a o e] at z; cases z)
  have toChg : ∀ h2 : Heap, (∀ b o, b ≠ env.locals → (∀ x c, env.cells.lookup x = some c → b ≠ c) → b ∉ own → b ∉ wr → h0.get? b = some o → h2.get? b = some o) → Chg env own s.heap h2 := fun h2 hh b o h1 h2' h3 e =>
    hh b o h1 h2' h3 (fun hb => by rw [hwr b hb] at e; cases e) (g0 b o e)
  -- a step that changes the iterator alone
  have stepS : ∀ {h1 h2 : Heap} {own2 : List Addr} {ρ2 : Ro}, StS W H env ex own2 ρ2 h1 → (∀ b ∈ wr, ∃ o vs, h1.get? b = some o ∧ o.data = .fields vs) → (∀ b o, b ∉ wr → h1.get? b = some o → h2.get? b = some o) → StS W H env ex own2 ρ2 h2 := by
    intro h1 h2 own2 ρ2 S fl kk
    refine S.pres (fun b o e => kk b o (fun hb => by rw [hwH b hb] at e; cases e) (S.grow b o e)) fun b o hfd e => kk b o (fun hb => ?_) e
    refine e2_2 (fl b hb) fun o' vs e' q => ?_
    rw [e] at e'; cases e'
    exact hfd _ q
  by_cases hlt : i < ds.length
  · have hd : ds[i]? = some ds[i] := List.getElem?_eq_getElem hlt
    refine Wt.item i ds[i] { s with heap := h, toks := tk } _ _ hd hst fun u h1 tk1 hu hmid hk1 => ?_
    have S2 := stepS S1 (Wt.flds i h hst) hk1
    refine Wt.go i u { s with heap := h1, toks := tk1 } _ _ hmid fun h2 hst2 hk2 => ?_
    have S3 := stepS S2 (Wt.fldsM i u h1 hmid) hk2
    have ru : Rep h2 (own1 ++ ex) u ds[i] := by
      refine (hu (own1 ++ ex) fun a ha => ?_).keep fun b o _ q e => hk2 b o (fun hb => ?_) e
      · rcases List.mem_append.mp ha with ha | ha
        · obtain ⟨_, xs, nn, e⟩ := S1.mine a ha
          exact ⟨(n1 a ha).elim (fun z => .inl (List.mem_append.mpr (.inl z))) .inr, _, e⟩
        · refine e1_1 (c.exH a ha) fun o e => ?_
          exact ⟨.inl (List.mem_append.mpr (.inr ha)), o, S1.grow a o e⟩
      · refine e2_2 (Wt.fldsM i u h1 hmid b hb) fun o' vs e' q' => ?_
        rw [e] at e'; cases e'
        refine e2_1 (q) fun xs mm q => ?_
        rw [q] at q'; cases q'
    have hdrop : ds.drop i = ds[i] :: ds.drop (i + 1) := (List.drop_eq_getElem_cons hlt)
    rw [hdrop] at hf
    simp only [forD_cons] at hf
    have hk2' : ∀ b o, b ≠ env.locals → (∀ x c, env.cells.lookup x = some c → b ≠ c) → b ∉ own → b ∉ wr → h0.get? b = some o → h2.get? b = some o := fun b o a1 a2 a3 a4 e => hk2 b o a4 (hk1 b o a4 (hk b o a1 a2 a3 a4 e))
    first | refine opND hf fun ρ2 hb2 hf => ?_ | refine opNL hf fun ρ2 hb2 hf => ?_ | refine opNR hf fun ρ2 hb2 hf => ?_
    · skip
      have cx : CtxS W H n A env ex own1 ρ1 { s with heap := h2, toks := tk1 } := ⟨c.room, c.eo, S3, c.exH⟩
      refine hbind ds[i] ρ1 ρ2 own1 _ u _ _ cx hb2 ru fun h3 tk3 S4 c4 => ?_
      have cx4 : CtxS W H n A env ex own1 ρ2 { s with heap := h3, toks := tk3 } := ⟨c.room, c.eo, S4, c.exH⟩
      -- what the body's end gives
      have after : ∀ {h4 : Heap} {own2 : List Addr} {ρ3 : Ro}, StS W H env ex own2 ρ3 h4 → Chg env own1 h3 h4 → Newer own1 own2 h3 → Newer own own2 h0 ∧ (∀ b o, b ≠ env.locals → (∀ x c, env.cells.lookup x = some c → b ≠ c) → b ∉ own → b ∉ wr → h0.get? b = some o → h4.get? b = some o) ∧ St (i + 1) h4 := by
        intro h4 own2 ρ3 S5 c5 n5
        have k3 : ∀ b o, b ≠ env.locals → (∀ x c, env.cells.lookup x = some c → b ≠ c) → b ∉ own → b ∉ wr → h0.get? b = some o → h4.get? b = some o := fun b o a1 a2 a3 a4 e => by
          have b1 : b ∉ own1 := fun hb => (n1 b hb).elim a3 fun z => by exact nsm z e
          exact c5 b o a1 a2 b1 (c4 b o a1 a2 b1 (hk2' b o a1 a2 a3 a4 e))
        refine ⟨fun a ha => ?_, k3, ?_⟩
        · rcases n5 a ha with z | z
          · exact n1 a z
          · by_cases ho : a ∈ own
            · exact .inl ho
            · refine .inr ?_
              cases e : h0.get? a with
              | none => rfl
              | some oo =>
                exfalso
                refine e0_2 (S5.mineNe a ha) fun a1 a2 => ?_
                have b1 : a ∉ own1 := fun hb => (n1 a hb).elim ho fun z => by exact nsm z e
                by_cases hw : a ∈ wr
                · refine e2_2 (Wt.flds _ _ hst2 a hw) fun o' vs' e' q' => ?_
                  have := c4 a o' a1 a2 b1 e'
                  exact nsm z this
                · have := c4 a oo a1 a2 b1 (hk2' a oo a1 a2 ho hw e)
                  exact nsm z this
        · refine Wt.frame (i + 1) h2 h4 hst2 (fun b o hx q e => ?_) fun b hb o e => ?_
          · refine e2_1 (q) fun xs mm q => ?_
            refine k3 b o ?_ (fun x cc hx' => ?_) (fun hm => hx (List.mem_append.mpr (.inl hm))) (fun hw => ?_) e
            · rintro rfl
              refine e4_3 (S0.hL) fun zz o' es ep g' q' zz => ?_
              rw [e] at g'; cases g'; rw [q] at q'; cases q'
            · rintro rfl
              obtain ⟨_, v, o', g', q'⟩ := S0.cells x b hx'
              rw [e] at g'; cases g'; rw [q] at q'; cases q'
            · refine e2_2 (Wt.flds _ _ st0 b hw) fun o' vs' e' q' => ?_
              rw [e] at e'; cases e'; rw [q] at q'; cases q'
          · refine e2_2 (Wt.flds _ _ hst2 b hb) fun o' vs' e' q' => ?_
            rw [e] at e'; cases e'
            have a1 : b ≠ env.locals := by
              rintro rfl
              refine e4_3 (S3.hL) fun zz o' es ep g' q2 zz => ?_
              rw [e] at g'; cases g'; rw [q'] at q2; cases q2
            have a2 : ∀ x c, env.cells.lookup x = some c → b ≠ c := by
              rintro x cc hx' rfl
              obtain ⟨_, v, o2, g', q2⟩ := S3.cells x b hx'
              rw [e] at g'; cases g'; rw [q'] at q2; cases q2
            have a3 : b ∉ own1 := fun hm => by
              obtain ⟨_, xs, nn, g'⟩ := S3.mine b hm
              rw [e] at g'; cases g'; cases q'
            exact c5 b o a1 a2 a3 (c4 b o a1 a2 a3 e)
      split at hf
      · cases hf
      · rename_i ρ3 hb3
        refine ha A env ex own1 ρ2 ρ3 _ a' .next _ _ cx4 hc hb3 fun h4 tk4 own2 fl S5 c5 n5 ff => ?_
        cases fl <;> first | cases ff | skip
        refine e0_3 (after S5 c5 n5) fun q1 q2 q3 => ?_
        exact ⟨ds.length + 1 - (i + 1), by omega, h4, tk4, i + 1, own2, ρ3, rfl, q3, S5, q1, by omega, rfl, hf, q2⟩
      · rename_i ρ3 hb3
        refine ha A env ex own1 ρ2 ρ3 _ a' .cont _ _ cx4 hc hb3 fun h4 tk4 own2 fl S5 c5 n5 ff => ?_
        cases fl <;> first | cases ff | skip
        refine e0_3 (after S5 c5 n5) fun q1 q2 q3 => ?_
        exact ⟨ds.length + 1 - (i + 1), by omega, h4, tk4, i + 1, own2, ρ3, rfl, q3, S5, q1, by omega, rfl, hf, q2⟩
      · rename_i ρ3 hb3
        cases hf
        refine ha A env ex own1 ρ2 ρ' _ a' .brk _ _ cx4 hc hb3 fun h4 tk4 own2 fl S5 c5 n5 ff => ?_
        cases fl <;> first | cases ff | skip
        refine e0_3 (after S5 c5 n5) fun q1 q2 q3 => ?_
        exact hR _ _ (hQ h4 tk4 own2 .next S5 (toChg _ q2) (newerS _ q1) trivial)
      · rename_i d ρ3 hb3
        cases hf
        refine ha A env ex own1 ρ2 ρ' _ a' (.ret d) _ _ cx4 hc hb3 fun h4 tk4 own2 fl S5 c5 n5 ff => ?_
        cases fl with
        | ret v =>
          refine e0_3 (after S5 c5 n5) fun q1 q2 q3 => ?_
          exact hR _ _ (hQ h4 tk4 own2 (.ret v) S5 (toChg _ q2) (newerS _ q1) ff)
        | _ => exact ff.elim
  · have hin : i = ds.length := by omega
    subst hin
    refine Wt.done { s with heap := h, toks := tk } _ _ hst fun h1 tk1 hk1 => ?_
    have S2 := stepS S1 (Wt.flds _ h hst) hk1
    rw [List.drop_length] at hf
    simp only [forD_nil, Option.some.injEq, Prod.mk.injEq] at hf
    refine e0_2 (hf) fun ze2 ze3 => ?_; subst ze2; subst ze3
    exact wpAny_execs_nil (hR _ _ (hQ h1 tk1 own1 .next S2 (toChg _ fun b o a1 a2 a3 a4 e => hk1 b o a4 (hk b o a1 a2 a3 a4 e)) (newerS _ n1) trivial))

set_option tactic.hygienic true in
theorem s_for1 {v : String} {x : X} {a : List S} (hx : XE prog w W H C K n x) (ha : SPs prog w W H C K n a) : SP prog w W H C K n (.for1 v x a) := fun A env ex own ρ ρ' s t o Q E c hc hv hQ => by
  refine invS_for1 (P := fun t => wpAny (model prog w) A (exec t env) Q E s) (fun id p it a' pos hc => ?_) hc
  · skip
    simp only [Bool.and_eq_true] at hc
    refine l4 (hc) fun h1 h2 h3 h4 => ?_
    refine e1_2 (nameB_of h1) fun p' he hs => ?_
    cases he
    dsimp only [exS_for1] at hv
    first | refine opND hv fun xv hxv hv => ?_ | refine opNL hv fun xv hxv hv => ?_ | refine opNR hv fun xv hxv hv => ?_
    · skip
      first | refine opND hv fun ds hds hv => ?_ | refine opNL hv fun ds hds hv => ?_ | refine opNR hv fun ds hds hv => ?_
      · skip
        refine wpAny_For ?_ (notSet_of h3)
        refine hx A env ex own ρ s it xv _ _ (c.x W H n) h2 hxv fun u h' tk g ru => ?_
        refine wpAny_mono (iter_ok (s := { s with heap := h', toks := tk }) (E := E) c.room.handled ru hds ((c.x W H n).old.up g)) (fun itv s₂ hi => ?_) fun _ _ e => e
        refine e4_6 (hi) fun I wr St h2' e ze4 g2 Wt st0 hwr => ?_; subst ze4
        rw [e]
        refine for_core (s := s) (h0 := h2') c ha h4 (fun d ρ ρ1 own s u Q E cx hb r hh => ?_) (g.trans g2) (Wt.toF _) st0 (fun b hb => ?_) hv hQ (fun fl s' h => h)
        · cases hb
          exact PyProof.Rows.assign_Name (store_val cx (seen_of hs) r hh)
        · cases e : s.heap.get? b with
          | none => rfl
          | some o => have := g b o e; rw [hwr b hb] at this; cases this

set_option tactic.hygienic true in
theorem s_forT {vs : List String} {x : X} {a : List S} (hx : XE prog w W H C K n x) (ha : SPs prog w W H C K n a) : SP prog w W H C K n (.forT vs x a) := fun A env ex own ρ ρ' s t o Q E c hc hv hQ => by
  refine invS_forT (P := fun t => wpAny (model prog w) A (exec t env) Q E s) (fun ts k1 p1 it a' pos hc => ?_) hc
  · skip
    simp only [Bool.and_eq_true] at hc
    refine l5 (hc) fun h1 h2 h3 h4 h5 => ?_
    dsimp only [exS_forT] at hv
    first | refine opND hv fun xv hxv hv => ?_ | refine opNL hv fun xv hxv hv => ?_ | refine opNR hv fun xv hxv hv => ?_
    · skip
      first | refine opND hv fun ds hds hv => ?_ | refine opNL hv fun ds hds hv => ?_ | refine opNR hv fun ds hds hv => ?_
      · skip
        refine wpAny_For ?_ (notSet_of h3)
        refine hx A env ex own ρ s it xv _ _ (c.x W H n) h2 hxv fun u h' tk g ru => ?_
        refine wpAny_mono (iter_ok (s := { s with heap := h', toks := tk }) (E := E) c.room.handled ru hds ((c.x W H n).old.up g)) (fun itv s₂ hi => ?_) fun _ _ e => e
        refine e4_6 (hi) fun I wr St h2' e ze5 g2 Wt st0 hwr => ?_; subst ze5
        rw [e]
        refine for_core (s := s) (h0 := h2') c ha h5 (fun d ρ ρ1 own s u Q E cx hb r hh => unpack_ok h1 cx hb r hh) (g.trans g2) (Wt.toF _) st0 (fun b hb => ?_) hv hQ (fun fl s' h => h)
        cases e : s.heap.get? b with
        | none => rfl
        | some o => have := g b o e; rw [hwr b hb] at this; cases this
end
end Mine
end

section
open PySem PySem.W PyProof.Rows

namespace Mine
set_option tactic.hygienic false
section
variable {prog : Program} {w : World} {W : Wh} {H : Heap} {C : String → List PyData → Option PyData} {K : PyData → PyData → PyData → Option PyData} {n : Nat}

theorem rangeD_of {l h : PyData} {ds : List PyData} (e : rangeD l h = some ds) : ∃ a b, l = .int a ∧ h = .int b ∧ 0 ≤ a ∧ a < 1048576 ∧ -1048576 < b ∧ b < 1048576 ∧ ds = (List.range (b - a).toNat).map fun i => .int (a + (i : Nat)) := by
  refine onIP_el (P := fun l => ∃ a b, l = .int a ∧ h = .int b ∧ 0 ≤ a ∧ a < 1048576 ∧ -1048576 < b ∧ b < 1048576 ∧ ds = (List.range (b - a).toNat).map fun i => .int (a + (i : Nat))) (fun a e => ?_) e
  refine onIP_el (P := fun h => ∃ a' b, PyData.int a = .int a' ∧ h = .int b ∧ 0 ≤ a' ∧ a' < 1048576 ∧ -1048576 < b ∧ b < 1048576 ∧ ds = (List.range (b - a').toNat).map fun i => .int (a' + (i : Nat))) (fun b e => ?_) e
  refine if_el (fun hc e => ?_) e
  refine and4 (fun h1 h2 h3 h4 => ?_) hc
  exact ⟨a, b, rfl, rfl, of_decide_eq_true h1, of_decide_eq_true h2, of_decide_eq_true h3, of_decide_eq_true h4, (Option.some.inj e).symm⟩

set_option tactic.hygienic true in
theorem lo0_of {lo : X} (h : (match lo with | .int 0 => true | _ => false) = true) : lo = .int 0 := by
  cases lo <;> first | exact absurd h Bool.false_ne_true | skip
  rename_i n
  cases n with
  | ofNat m =>
    cases m with
    | zero => rfl
    | succ m => exact absurd h Bool.false_ne_true
  | negSucc m => exact absurd h Bool.false_ne_true

set_option tactic.hygienic true in
theorem s_forR (W' : WdOk prog w W H) {v : String} {lo hi : X} {a : List S} (hl : XE prog w W H C K n lo) (hh : XE prog w W H C K n hi) (ha : SPs prog w W H C K n a) : SP prog w W H C K n (.forR v lo hi a) := fun A env ex own ρ ρ' s t o Q E c hc hv hQ => by
  refine invS_forR (P := fun t => wpAny (model prog w) A (exec t env) Q E s) (fun id p rg rp args cp a' pos hc => ?_) hc
  · skip
    rw [Bool.and_eq_true, Bool.and_eq_true, Bool.and_eq_true, Bool.and_eq_true] at hc
    refine l5 (hc) fun h1 h2 h3 h4 h5 => ?_
    have h2 := str_eq h2; subst h2
    refine e1_2 (nameB_of h1) fun p' he hs => ?_
    cases he
    dsimp only [exS_forR] at hv
    first | refine opND hv fun lv hlv hv => ?_ | refine opNL hv fun lv hlv hv => ?_ | refine opNR hv fun lv hlv hv => ?_
    · skip
      first | refine opND hv fun hv2 hhv hv => ?_ | refine opNL hv fun hv2 hhv hv => ?_ | refine opNR hv fun hv2 hhv hv => ?_
      · skip
        first | refine opND hv fun ds hds hv => ?_ | refine opNL hv fun ds hds hv => ?_ | refine opNR hv fun ds hds hv => ?_
        · skip
          refine e2_7 (rangeD_of hds) fun x y ze7 ze8 b1 b2 b3 b4 ze9 => ?_; subst ze7; subst ze8; subst ze9
          refine wpAny_For ?_ (fun _ => rfl)
          -- what comes of the range
          have rest : ∀ (r : Addr) (h' : Heap) (tk : Nat) (t u cc : Tok), Grow s.heap h' → IsRange h' r x y 1 t u cc →
              wpAny (model prog w) A (pyIter (.ref r)) (fun it s₂ => codeAny (model prog w) A (.forLoop (.Name (Str.ofString v) p) it a' [] env) (fun r s' => match r with | .ok f => Q f s' | .error e => cameBackBy (model prog w) A env E e s') s₂) E { s with heap := h', toks := tk } := by
            intro r h' tk t u cc g hr
            refine wpAny_mono (range_ok (s := { s with heap := h', toks := tk }) (exx := own ++ ex) (E := E) c.room.handled hr b1 b2 b3 b4) (fun itv s₂ hi => ?_) fun _ _ e => e
            refine e4_6 (hi) fun I wr St h2' e ze10 g2 Wt st0 hwr => ?_; subst ze10
            rw [e]
            refine for_core (s := s) (h0 := h2') c ha h5 (fun d ρ ρ1 own s u Q E cx hb r hh => ?_) (g.trans g2) (Wt.toF _) st0 (fun b hb => ?_) hv hQ (fun fl s' h => h)
            · cases hb
              exact PyProof.Rows.assign_Name (store_val cx (seen_of hs) r hh)
            · cases e : s.heap.get? b with
              | none => rfl
              | some o => have := g b o e; rw [hwr b hb] at this; cases this
          refine Call_ (glob_bi (W' := W') (c.x W H n) h3 W'.range (by decide +kernel) ?_) (by cases args <;> rfl)
          cases args with
          | nil => exact absurd h4 Bool.false_ne_true
          | cons q1 r1 =>
            cases r1 with
            | nil =>
              refine and2 (fun k1 k2 => ?_) h4
              have hlo := lo0_of k1
              subst hlo
              have hx0 : (0 : Int) = x := PyData.int.inj (Option.some.inj hlv)
              subst hx0
              refine Pv.callWith_type1 (args_ok (xs := [hi]) (by simpa using hh) (c.x W H n) (chXs1 k2) (ds := [.int y]) (by simp [evXs_nil, evXs_cons, hhv]) fun us h' tk g rs => ?_) (star_cons (chX_star k2)) rfl
              refine e1_2 (repAll_one rs) fun u ze11 ru => ?_; subst ze11
              cases ru
              refine call_range_1 ?_
              exact rest _ _ _ _ _ _ (g.trans (Grow.push _ _)) (IsRange.new _ _ _ _ _ _ _)
            | cons q2 r2 =>
              cases r2 with
              | cons q3 r3 => exact absurd h4 Bool.false_ne_true
              | nil =>
                refine and2 (fun k1 k2 => ?_) h4
                refine Pv.callWith_type1 (args_ok (xs := [lo, hi]) (by simp; exact ⟨hl, hh⟩) (c.x W H n) (chXs2 k1 k2) (ds := [.int x, .int y]) (by simp [evXs_nil, evXs_cons, hlv, hhv]) fun us h' tk g rs => ?_) (star_cons (chX_star k1)) (noStar (xs := [hi]) _ (chXs1 k2))
                cases rs with
                | cons r1 rs =>
                  refine e1_2 (repAll_one rs) fun u ze12 ru => ?_; subst ze12
                  cases r1; cases ru
                  refine call_range_2 ?_
                  exact rest _ _ _ _ _ _ (g.trans (Grow.push _ _)) (IsRange.new _ _ _ _ _ _ _)

theorem enumD_at : ∀ (k : Nat) (ds : List PyData) (i : Nat), (enumD k ds)[i]? = (ds[i]?).map fun d => .tuple [.int ((k + i : Nat) : Int), d]
  | k, [], i => by simp [enumD_nil]
  | k, d :: ds, 0 => by simp [enumD_cons]
  | k, d :: ds, i + 1 => by
    simp only [enumD_cons, List.getElem?_cons_succ]
    rw [enumD_at (k + 1) ds i]
    have : k + 1 + i = k + (i + 1) := by lia
    rw [this]
theorem enumD_len : ∀ (k : Nat) (ds : List PyData), (enumD k ds).length = ds.length
  | _, [] => rfl
  | k, _ :: ds => by simp [enumD_cons, enumD_len (k + 1) ds]

theorem enum_walk {A : Around} {h0 : Heap} {exx : List Addr} {e it l : Addr} {vs : List Value} {k : Nat} {ds : List PyData} {ts : List Expr} {x1 : Nat} {pos : Pos} (hh : A.handled = none) (g : h0.get? l = some { cls := .type "list", data := .seq vs.toArray k }) (hl : l ∉ exx)
    (r : RepAll h0 exx vs ds) (hei : e ≠ it) :
    WkF prog w A h0 exx e [e, it] (enumD 0 ds) (.Tuple ts x1 pos) (fun i h => (∃ old, IsEnum h e it (i : Nat) old) ∧ h.IsListIter it l i ∧ Kp exx h0 h)
      (fun i v h => ∃ a item, v = .ref a ∧ IsEnumOut h e it ((i : Nat) + 1) item a ∧ h.IsListIter it l (i + 1) ∧ Kp exx h0 h) where
  frame := fun i h h' st kp hw => by
    refine e0_3 (st) fun zt13 hit zz => ?_
    refine e1_1 (zt13) fun old he => ?_
    exact ⟨⟨old, hw _ (by simp) _ he⟩, hit.at fun o e => hw _ (by simp) o e, kp⟩
  flds := fun i h st b hb => by
    refine e0_3 (st) fun zt14 zt15 zz => ?_
    refine e1_1 (zt14) fun old he => ?_
    refine e1_3 (zt15) fun o e1 zz q => ?_
    simp at hb
    rcases hb with rfl | rfl
    · exact ⟨_, _, he, rfl⟩
    · exact ⟨_, _, e1, q⟩
  fldsM := fun i v h st b hb => by
    refine e2_4 (st) fun a item zz he zt16 zz => ?_
    refine e1_3 (zt16) fun o e1 zz q => ?_
    simp at hb
    rcases hb with rfl | rfl
    · exact ⟨_, _, he, rfl⟩
    · exact ⟨_, _, e1, q⟩
  item := fun i d s Q E hd st hQ => by
    refine e0_3 (st) fun zt17 hit kp => ?_
    refine e1_1 (zt17) fun old he => ?_
    rw [enumD_at] at hd
    simp only [Option.map_eq_some_iff] at hd
    refine e1_2 (hd) fun d' hd' ze18 => ?_; subst ze18
    refine e1_2 (r.get hd') fun u hu ru => ?_
    have gl := kp l _ hl ⟨_, _, rfl⟩ g
    refine wpAny_pyNext_enum_item he hit (isList_of gl) (by simpa using hu) hei fun h' he' hit' ht' hz hk => ?_
    have kp' : Kp exx h0 h' := fun b o hx q e0 => by
      have e1 := kp b o hx q e0
      refine e2_1 (q) fun xs mm q => ?_
      refine hk b o ?_ ?_ e1
      · rintro rfl; rw [he] at e1; cases e1; cases q
      · rintro rfl
        refine e1_3 (hit) fun o' g' zz q' => ?_
        rw [e1] at g'; cases g'; rw [q] at q'; cases q'
    refine hQ _ h' _ (fun exx' hx => ?_) ⟨_, _, rfl, he', hit', kp'⟩ (fun b o hb e => hk b o (fun z => hb (by simp [z])) (fun z => hb (by simp [z])) e)
    refine .tuple (vs := [.int i s.toks, u]) ⟨_, ht', rfl, _, rfl⟩ (fun hm => ?_) (by show (2 : Nat) ≤ sizeLine; rw [sizeLine_eq]; lia) (.cons ?_ (.one (ru.over (fun a m => (hx a m).1) kp')))
    · obtain ⟨_, o, e⟩ := hx _ hm
      exact Nat.lt_irrefl _ (Heap.lt_size e)
    · have : ((0 + i : Nat) : Int) = (i : Int) := by lia
      rw [this]; exact .int _ _
  go := fun i v s Q E hm hQ => by
    refine e2_4 (hm) fun a item ze19 he hit kp => ?_; subst ze19
    refine wpAny_letOwnedTupleGo_enum he fun h' he' hs' => ?_
    refine hQ h' ⟨⟨item, ?_⟩, hit.at fun o e1 => hs'.extBut it o (Ne.symm hei) e1, fun b o hx q e0 => ?_⟩ fun b o hb e => hs'.extBut b o (fun z => hb (by simp [z])) e
    · have : ((i : Nat) : Int) + 1 = ((i + 1 : Nat) : Int) := by lia
      rw [this] at he'; exact he'
    · have e1 := kp b o hx q e0
      refine e2_1 (q) fun xs mm q => ?_
      refine hs'.extBut b o ?_ e1
      rintro rfl; rw [he] at e1; cases e1; cases q
  done := fun s Q E st hQ => by
    refine e0_3 (st) fun zt20 hit kp => ?_
    refine e1_1 (zt20) fun old he => ?_
    have gl := kp l _ hl ⟨_, _, rfl⟩ g
    refine wpAny_pyNext_enum_end hh he hit (isList_of gl) (by rw [enumD_len]; simp [r.length]) fun h' he' => ?_
    exact hQ h' s.toks fun b o hb e => he' b o (fun z => hb (by simp [z])) e

set_option tactic.hygienic true in
theorem s_forE (W' : WdOk prog w W H) {i v : String} {x : X} {a : List S} (hx : XE prog w W H C K n x) (ha : SPs prog w W H C K n a) : SP prog w W H C K n (.forE i v x a) := fun A env ex own ρ ρ' s t o Q E c hc hv hQ => by
  refine invS_forE (P := fun t => wpAny (model prog w) A (exec t env) Q E s) (fun ts k1 p1 en ep it cp a' pos hc => ?_) hc
  · skip
    simp only [Bool.and_eq_true] at hc
    refine l5 (hc) fun h1 h2 h3 h4 h5 => ?_
    have h2 := str_eq h2; subst h2
    dsimp only [exS_forE] at hv
    first | refine opND hv fun xv hxv hv => ?_ | refine opNL hv fun xv hxv hv => ?_ | refine opNR hv fun xv hxv hv => ?_
    · skip
      split at hv
      · rename_i ds
        refine wpAny_For ?_ (fun _ => rfl)
        refine Call_ (glob_bi (W' := W') (c.x W H n) h3 W'.enum (by decide +kernel) ?_)
        refine Pv.callWith_type1 (args_cons (hx A env ex own ρ s it _ _ _ (c.x W H n) h4 hxv fun u h' tk g ru => ?_) (star_cons (chX_star h4))) (star_cons (chX_star h4)) rfl
        refine args_nil ?_
        refine e3_5 (ru.isList) fun l vs k ze21 gl rs len hl => ?_; subst ze21
        refine call_enumerate_1 (s := { s with heap := h', toks := tk }) gl fun h2' he hit hz hk => ?_
        refine wpAny_pyIter_enum he ?_
        have hei : h'.objs.size + 1 ≠ h'.objs.size := by lia
        have W0 := enum_walk (prog := prog) (w := w) (ts := ts) (x1 := k1) (pos := p1) (h0 := h2') (exx := own ++ ex) (e := h'.objs.size + 1) (it := h'.objs.size) c.room.handled (hk _ _ gl) hl (rs.grow hk) hei
        refine for_core (s := s) (h0 := h2') c ha h5 (fun d ρ ρ1 own s u Q E cx hb r hh => unpack_ok h1 cx hb r hh) (g.trans hk) W0 ⟨⟨_, he⟩, hit, fun _ _ _ _ e => e⟩ (fun b hb => ?_) hv hQ (fun fl s' h => h)
        cases e : s.heap.get? b with
        | none => rfl
        | some o =>
          have := Heap.lt_size (g b o e)
          have hb' : b = h'.objs.size + 1 ∨ b = h'.objs.size := by simpa using hb
          rcases hb' with rfl | rfl
          · exact absurd this (Nat.not_lt.mpr (Nat.le_succ _))
          · exact absurd this (Nat.lt_irrefl _)
      · exact nos hv
end
end Mine
end

section
open PySem PySem.W PyProof.Rows
open Sem (wp)
set_option maxRecDepth 100000

namespace Mine
set_option tactic.hygienic false

theorem si_next : Slot "set_iterator" "__next__" "set_iterator.__next__" := .of (owner := "set_iterator") (n := "__next__") (by rw [typeLookup_type, builtinLookup_eq_fast]; kernel_rfl) (by decide +kernel) (by decide +kernel) (by decide +kernel)
    (by first | exact .inl (by decide +kernel) | exact .inr (by decide +kernel)) (by rw [isSubtype_type]; kernel_rfl)
theorem si_enext : entryFor table "set_iterator.__next__" = some Builtin.«set_iterator.__next__» := entryFor_of_tree (by kernel_rfl)
theorem si_anext (a : Value) : argsOk "set_iterator.__next__" ⟨[a], []⟩ := by unfold argsOk; kernel_rfl
theorem s_eiter : entryFor table "set.__iter__" = some Builtin.«frozenset.__iter__» :=
  entryFor_alias (id' := "frozenset.__iter__") (by kernel_rfl) rfl (by decide +kernel) (by kernel_rfl)

noncomputable def T1 (led : Bool) : SetTable := { mask := 7, place := #[1], dummies := #[], finger := 0, led := led, moves := 0, plain := true }
noncomputable def S0 (led : Bool) : Obj := { cls := .type "set", dict := none, data := .set #[] 0 (.fresh 0 0 led) }
noncomputable def S1 (led : Bool) : Obj := { cls := .type "set", dict := none, data := .set #[(1, .bool true)] 1 (T1 led) }
theorem lay1 (led : Bool) : layNew (.fresh 0 0 led) #[] 1 (.bool true) = (#[(1, .bool true)], T1 led, false, false) := by cases led <;> rfl
theorem fit0 (led : Bool) : (SetTable.fresh 0 0 led).fits 0 = true := by cases led <;> rfl
theorem fit1 (led : Bool) : (T1 led).fits 1 = true := by cases led <;> rfl
theorem full1 (led : Bool) : (T1 led).tooFull = false := by cases led <;> rfl

section
variable {prog : Program} {w : World} {A : Around} {E : Value → Shared → Prop} {s : Shared}

theorem newSet_ {Q : Value → Shared → Prop} (h : Q (.ref s.heap.objs.size) { s with heap := s.heap.push (S0 (!w.params.followText "set-order")) }) : wpAny (model prog w) A (newSet (.type "set")) Q E s := by
  unfold newSet setsByText
  refine wpAny_bind (wpAny_bind (wpAny_askSetting (wpAny_pure ?_)))
  dsimp only
  simp only [newObj]
  exact wpAny_bind (wpAny_alloc (wpAny_pure h))

theorem hash_true {Q : Int → Shared → Prop} (h : Q 1 { s with toks := s.toks + 1 }) : wpAny (model prog w) A (pyHash (.bool true)) Q E s := by
  have hT : s.TypeIs (.bool true) "bool" := rfl
  have hr := rawHash_range 1
  unfold pyHash
  have hv : [Value.bool true].any Value.onHeap = false := rfl
  refine wpAny_bind ?_
  rw [cRoomFor, if_neg (by rw [hv]; exact Bool.false_ne_true)]; refine wpAny_pure ?_
  refine wpAny_bind (wpAny_specialOf hT F.slot_bool_hash.lookup ?_)
  show wpAny _ _ (if (some (Value.builtin "int.__hash__") == some Value.none) = true then _ else _) Q E s
  rw [if_neg (by rw [beq_builtin_none]; exact Bool.false_ne_true)]
  refine wpAny_bind (wpAny_specialOf hT F.slot_bool_hash.lookup ?_)
  show wpAny _ _ (callSpecialIfBoundUnlessNone? (.bool true) "__hash__" _ >>= _) Q E s
  refine wpAny_bind (wpAny_callSpecialIfBoundUnlessNone?_slot hT F.slot_bool_hash
    (wpAny_call_entry F.slot_bool_hash hT entry_int_hash
      (show wpAny _ _ (do ret (← mkInt (rawHash 1))) _ _ s from wpAny_ret_mkInt ?_) (args_int_hash _)))
  show wpAny _ _ (if (decide (-(2 : Int) ^ 63 ≤ rawHash 1) && decide (rawHash 1 < 2 ^ 63)) = true then _ else _) Q E _
  rw [if_pos (by rw [decide_eq_true hr.1, decide_eq_true hr.2]; rfl)]
  exact wpAny_pure h

theorem eq_true {Q : Bool → Shared → Prop} (h : Q true s) : wpAny (model prog w) A (eqBool (.bool true) (.bool true)) Q E s := by
  unfold eqBool
  refine wpAny_holding ?_
  show wpAny _ _ (if (Value.bool true == Value.bool true) = true then _ else _) Q E s
  rw [if_pos (by rfl)]
  exact wpAny_bind (wpAny_rule (wpAny_pure h))

theorem set_add0 {a : Addr} {led : Bool} {Q : Value → Shared → Prop} (g : s.heap.get? a = some (S0 led)) (h : ∀ h' tk, Heap.SameBut a s.heap h' → h'.get? a = some (S1 led) → Q .none { s with heap := h', toks := tk }) :
    wpAny (model prog w) A (call (.builtin "set.add") [.ref a, .bool true]) Q E s := by
  refine wpAny_call_entry F.slot_set_add ⟨_, g, rfl⟩ F.entry_set_add ?_ (F.args_set_add_2 _ _)
  unfold Builtin.«set.add» Builtin.Frozenset.oneOther
  simp only [List.isEmpty_nil, bind_assoc]
  unfold Builtin.Frozenset.addrOf setAdd
  refine wpAny_bind (wpAny_pure ?_)
  try dsimp only
  refine wpAny_bind (wpAny_pure ?_)
  try dsimp only
  refine wpAny_bind ?_
  refine wpAny_holding ?_
  refine wpAny_bind (hash_true ?_)
  unfold setAddHashed setAddHashedIn
  refine wpAny_holding (wpAny_bind (wpAny_setState_of (s := { s with toks := s.toks + 1 }) g rfl (fit0 led) ?_))
  dsimp only
  have hb : byScan (.bool true) #[] = true := by decide +kernel
  rw [hb]
  simp only [↓reduceIte]
  unfold setAddByScan
  refine wpAny_bind ?_
  refine wpAny_bind (wpAny_rule ?_)
  refine wpAny_bind ?_
  show wpAny _ _ (pure ScanMet.absent) _ _ _
  refine wpAny_pure ?_
  dsimp only
  rw [lay1]
  dsimp only
  refine wpAny_bind (wpAny_pure ?_)
  refine wpAny_bind ?_
  show wpAny _ _ (if (T1 led).plain = true then hashByValue 8 (.bool true) else pure true) _ _ _
  rw [if_pos (by rfl)]
  refine wpAny_pure ?_
  simp only [↓reduceIte]
  refine wpAny_bind (wpAny_storeSet_of g rfl ?_ (by show 1 ≤ sizeLine; rw [sizeLine_eq]; lia))
  rw [full1]
  simp only [Bool.and_false, Bool.false_eq_true, ↓reduceIte]
  refine wpAny_pure (wpAny_pure ?_)
  show wpAny _ _ (ret Value.none) _ _ _
  exact wpAny_pure ⟨_, rfl, h _ _ (Heap.SameBut.update ..) (Heap.get?_update_self _ g rfl)⟩

theorem set_add1 {a : Addr} {led : Bool} {Q : Value → Shared → Prop} (g : s.heap.get? a = some (S1 led)) (h : ∀ tk, Q .none { s with toks := tk }) :
    wpAny (model prog w) A (call (.builtin "set.add") [.ref a, .bool true]) Q E s := by
  refine wpAny_call_entry F.slot_set_add ⟨_, g, rfl⟩ F.entry_set_add ?_ (F.args_set_add_2 _ _)
  unfold Builtin.«set.add» Builtin.Frozenset.oneOther
  simp only [List.isEmpty_nil, bind_assoc]
  unfold Builtin.Frozenset.addrOf setAdd
  refine wpAny_bind (wpAny_pure ?_)
  try dsimp only
  refine wpAny_bind (wpAny_pure ?_)
  try dsimp only
  refine wpAny_bind ?_
  refine wpAny_holding ?_
  refine wpAny_bind (hash_true ?_)
  unfold setAddHashed setAddHashedIn
  refine wpAny_holding (wpAny_bind (wpAny_setState_of (s := { s with toks := s.toks + 1 }) g rfl (fit1 led) ?_))
  dsimp only
  have hb : byScan (.bool true) #[(1, .bool true)] = true := by decide +kernel
  rw [hb]
  simp only [↓reduceIte]
  unfold setAddByScan
  refine wpAny_bind ?_
  refine wpAny_bind (wpAny_rule ?_)
  refine wpAny_bind ?_
  show wpAny _ _ (setScanFrom a (.bool true) 1 true [(1, .bool true)] 0) _ _ _
  unfold setScanFrom
  rw [if_pos (by rfl)]
  refine wpAny_bind (wpAny_setEpoch_of (s := { s with toks := s.toks + 1 }) g rfl (fit1 led) ?_)
  refine wpAny_bind (eq_true ?_)
  simp only [Bool.and_self, ↓reduceIte]
  refine wpAny_pure ?_
  dsimp only
  refine wpAny_pure (wpAny_pure ?_)
  show wpAny _ _ (ret Value.none) _ _ _
  exact wpAny_pure ⟨_, rfl, h _⟩

noncomputable abbrev IsSI (h : Heap) (I a : Addr) (k i : Int) : Prop := h.get? I = some { cls := .type "set_iterator", dict := none, data := .fields #[rawInt k, rawInt i, .ref a, rawInt 1, rawInt 1], slots := #[] }

set_option tactic.hygienic true in
theorem set_iter {a : Addr} {led : Bool} {Q : Value → Shared → Prop} (g : s.heap.get? a = some (S1 led)) (h : ∀ h', IsSI h' s.heap.objs.size a 0 0 → Grow s.heap h' → Q (.ref s.heap.objs.size) { s with heap := h' }) :
    wpAny (model prog w) A (pyIter (.ref a)) Q E s := by
  have hT : s.TypeIs (.ref a) "set" := ⟨_, g, rfl⟩
  refine wpAny_pyIter_slot hT F.slot_set_iter (wpAny_call_entry F.slot_set_iter hT s_eiter ?_ (F.args_set_iter_1 _))
  unfold Builtin.«frozenset.__iter__» Builtin.Frozenset.slot0 slotArgs
  simp only [List.isEmpty_nil, Bool.not_true, Bool.false_eq_true, ↓reduceIte, bind_assoc, List.length_nil, bne_self_eq_false]
  unfold Builtin.Frozenset.addrOf Builtin.Frozenset.sizeOf
  refine wpAny_bind (wpAny_pure ?_)
  try dsimp only
  refine wpAny_bind (wpAny_pure ?_)
  refine wpAny_bind (wpAny_bind (wpAny_setEntries_of g rfl (fit1 led) (wpAny_pure ?_)))
  unfold setDrawn
  refine wpAny_bind (wpAny_bind (wpAny_setState_of g rfl (fit1 led) ?_))
  unfold setsByText
  refine wpAny_bind (wpAny_bind (wpAny_askSetting (wpAny_pure (wpAny_pure ?_))))
  dsimp only
  split
  · rename_i z
    cases hb : (model prog w).w.params.followText "set-order" with
    | true => rw [hb] at z; exact absurd z (by simp)
    | false => rw [hb] at z; exact Bool.noConfusion (show false = true from z)
  · refine wpAny_bind (wpAny_pure ?_)
    refine wpAny_bind (wpAny_setEpoch_of g rfl (fit1 led) ?_)
    refine wpAny_bind (wpAny_newObj_type ?_)
    have g2 := Heap.get?_push_size s.heap (o := { cls := .type "set_iterator", dict := none, data := .fields #[rawInt 0, rawInt 0, .ref a, rawInt 1, rawInt 1], slots := #[] }) rfl
    exact wpAny_pure ⟨_, rfl, "set_iterator", _, ⟨_, g2, rfl⟩, si_next.lookup, h _ g2 (Grow.push _ _)⟩

theorem pick1 {α : Type} (f : Nat → Nat) (x : α) : pickOrder f #[x] = #[x] := by
  unfold pickOrder
  show pickOrder.go f 1 0 [x] #[] = #[x]
  unfold pickOrder.go
  simp only [List.length_singleton, Nat.mod_one, List.getElem?_cons_zero]
  show pickOrder.go f 0 _ _ (#[].push x) = #[x]
  unfold pickOrder.go
  rfl

theorem set_walkT {a : Addr} {led : Bool} {Q : Array (Int × Value) → Shared → Prop} (g : s.heap.get? a = some (S1 led)) (ht : (model prog w).w.params.followText "set-order" = true) (h : Q #[(1, .bool true)] s) : wpAny (model prog w) A (setWalk a) Q E s := by
  unfold setWalk
  refine wpAny_bind (wpAny_setState_of g rfl (fit1 led) ?_)
  unfold setsByText
  refine wpAny_bind (wpAny_bind (wpAny_askSetting (wpAny_pure ?_)))
  dsimp only
  rw [if_pos ht]
  refine wpAny_bind (wpAny_askSetting (wpAny_pure ?_))
  rw [pick1]
  exact h

set_option tactic.hygienic true in
theorem set_next {a : Addr} {led : Bool} {Q : Option (Value × Nat) → Shared → Prop} (g : s.heap.get? a = some (S1 led)) (hled : led = !w.params.followText "set-order") (h : ∀ k, ((model prog w).w.params.followText "set-order" = true ∨ k = 2) → Q (some (.bool true, k)) s) :
    wpAny (model prog w) A (setNext a 0 0 1) Q E s := by
  unfold setNext
  refine wpAny_bind (wpAny_setState_of g rfl (fit1 led) ?_)
  unfold setsByText
  refine wpAny_bind (wpAny_bind (wpAny_askSetting (wpAny_pure ?_)))
  dsimp only
  split
  · rename_i hb
    rw [if_neg (by decide)]
    exact wpAny_bind (set_walkT g hb (wpAny_pure (h 0 (.inl hb))))
  · rename_i hb
    have hl : led = true := by
      have : w.params.followText "set-order" = false := Bool.eq_false_iff.mpr hb
      rw [hled, this]; rfl
    subst hl
    split
    · rename_i z; exact Bool.noConfusion (show false = true from z)
    · show wpAny _ _ ((pure () : Sem Unit) >>= _) _ _ _
      exact wpAny_bind (wpAny_pure (wpAny_pure (h 2 (.inr rfl))))
set_option tactic.hygienic true in
theorem set_nextEnd {a : Addr} {led : Bool} {k : Nat} {Q : Option (Value × Nat) → Shared → Prop} (g : s.heap.get? a = some (S1 led)) (hled : led = !w.params.followText "set-order") (hk : (model prog w).w.params.followText "set-order" = true ∨ k = 2) (h : Q none s) :
    wpAny (model prog w) A (setNext a k 1 1) Q E s := by
  unfold setNext
  refine wpAny_bind (wpAny_setState_of g rfl (fit1 led) ?_)
  unfold setsByText
  refine wpAny_bind (wpAny_bind (wpAny_askSetting (wpAny_pure ?_)))
  dsimp only
  split
  · rename_i hb
    rw [if_neg (by decide)]
    exact wpAny_bind (set_walkT g hb (wpAny_pure h))
  · rename_i hb
    have hk2 : k = 2 := hk.resolve_left hb
    subst hk2
    have hl : led = true := by
      have : w.params.followText "set-order" = false := Bool.eq_false_iff.mpr hb
      rw [hled, this]; rfl
    subst hl
    split
    · rename_i z; exact Bool.noConfusion (show false = true from z)
    · show wpAny _ _ ((pure () : Sem Unit) >>= _) _ _ _
      exact wpAny_bind (wpAny_pure (wpAny_pure h))

theorem si_item {I a : Addr} {led : Bool} {Q : Option Value → Shared → Prop} (g : s.heap.get? a = some (S1 led)) (hled : led = !w.params.followText "set-order") (hi : IsSI s.heap I a 0 0) (hne : a ≠ I)
    (h : ∀ h' (k : Nat), ((model prog w).w.params.followText "set-order" = true ∨ k = 2) → IsSI h' I a (k : Nat) 1 → Heap.SameBut I s.heap h' → Q (some (.bool true)) { s with heap := h' }) : wpAny (model prog w) A (pyNext (.ref I)) Q E s := by
  have hT : s.TypeIs (.ref I) "set_iterator" := ⟨_, hi, rfl⟩
  unfold pyNext
  refine wpAny_bind (wpAny_attempt (wpAny_callSpecial?_slot (name := Str.ofString "__next__") hT si_next
    (wpAny_call_entry si_next hT si_enext ?_ (si_anext _))))
  unfold Builtin.«set_iterator.__next__»
  refine wpAny_bind (wpAny_of_eq (a := (.ref I, [])) rfl ?_)
  try dsimp only
  refine wpAny_bind (wpAny_fieldsOf hi rfl ?_)
  show wpAny _ _ (setEntries a >>= _) _ _ _
  refine wpAny_bind (wpAny_setEntries_of g rfl (fit1 led) ?_)
  refine (wpAny_ite ?_)
  rw [if_neg (by decide)]
  show wpAny _ _ (setNext a 0 0 1 >>= _) _ _ _
  refine wpAny_bind (set_next g hled fun k hk => ?_)
  dsimp only
  refine wpAny_bind (wpAny_setField_rec hi (by simp) fun h1 hi1 hs1 => ?_)
  refine wpAny_bind (wpAny_setField_rec (s := { s with heap := h1 }) hi1 (by simp) fun h2 hi2 hs2 => ?_)
  exact wpAny_pure ⟨_, rfl, wpAny_pure (h h2 k hk hi2 (hs1.trans hs2))⟩

theorem si_end {I a : Addr} {led : Bool} {k : Nat} {Q : Option Value → Shared → Prop} (hh : A.handled = none) (g : s.heap.get? a = some (S1 led)) (hled : led = !w.params.followText "set-order") (hi : IsSI s.heap I a (k : Nat) 1) (hk : (model prog w).w.params.followText "set-order" = true ∨ k = 2)
    (h : ∀ h', Heap.ExtBut I s.heap h' → Q none { s with heap := h' }) : wpAny (model prog w) A (pyNext (.ref I)) Q E s := by
  have hT : s.TypeIs (.ref I) "set_iterator" := ⟨_, hi, rfl⟩
  unfold pyNext
  refine wpAny_bind (wpAny_attempt (wpAny_callSpecial?_slot (name := Str.ofString "__next__") hT si_next
    (wpAny_call_entry si_next hT si_enext ?_ (si_anext _))))
  unfold Builtin.«set_iterator.__next__»
  refine wpAny_bind (wpAny_of_eq (a := (.ref I, [])) rfl ?_)
  try dsimp only
  refine wpAny_bind (wpAny_fieldsOf hi rfl ?_)
  show wpAny _ _ (setEntries a >>= _) _ _ _
  refine wpAny_bind (wpAny_setEntries_of g rfl (fit1 led) ?_)
  refine (wpAny_ite ?_)
  rw [if_neg (by decide)]
  show wpAny _ _ (setNext a (Int.toNat k) 1 1 >>= _) _ _ _
  rw [Int.toNat_natCast]
  refine wpAny_bind (set_nextEnd g hled hk ?_)
  dsimp only
  refine wpAny_bind (wpAny_setField_rec hi (by simp) fun h1 hi1 hs1 => ?_)
  refine wpAny_bind ?_
  simp only [newExc, newTuple]
  refine wpAny_bind (wpAny_newObj_type ?_ (by size_fits))
  refine wpAny_bind (m := firstArgMember _ _) (wpAny_of_eq (a := Value.none) (by first | rfl | (simp only [firstArgMember]; rfl)) ?_)
  refine wpAny_newObj_type ?_ (by size_fits)
  simp only [raiseNew]
  refine wpAny_bind (wpAny_handled ?_)
  first | rw [show A.in1.handled = none from hh] | rw [hh]
  refine wpAny_bind (wpAny_pure (wpAny_throw ?_))
  refine wpAny_bind (wpAny_isInstance (T := "StopIteration") (b := true) ⟨_, Heap.get?_push_size _ rfl, rfl⟩ isSubtype_stop ?_)
  exact wpAny_pure (h _ ((hs1.extBut.push _).push _))
end
end Mine
end

section
open PySem PySem.W PyProof.Rows
open Sem (wp)
set_option maxRecDepth 100000

namespace Mine
set_option tactic.hygienic false

theorem compTurn_set (elt target iter : Expr) (ifs : List Expr) (scope : Scope) (pos : Pos) (it acc : Value) (env : Env) :
    compTurn (.SetComp elt [⟨target, iter, ifs, 0⟩] scope pos) 0 it acc env = (do
      standAt iter.pos
      match ← pyNext it with
      | none => pure (.done .next)
      | some v =>
        letOwnedTupleGo target it v
        assign target env v
        let mut ok := true
        for c in ifs do
          if ok then ok ← isTrue c env (eval c env)
        if ok then
          (do let v ← eval elt env; standAt elt.pos; let _ ← call (.builtin "set.add") [acc, v])
        again (.compLoop (.SetComp elt [⟨target, iter, ifs, 0⟩] scope pos) 0 it acc env)) := by rfl

section
variable {prog : Program} {w : World} {A : Around} {E : Value → Shared → Prop} {R : Result → Shared → Prop} {s : Shared}

theorem compStart_set {elt target iter : Expr} {ifs : List Expr} {scope : Scope} {pos : Pos} {it acc : Value} {env : Env}
    (h0 : codeAny (model prog w) A (.compLoop (.SetComp elt [⟨target, iter, ifs, 0⟩] scope pos) 0 it acc env) R s)
    (h : wpAny (model prog w) A (pyIter it) (fun it' s' => codeAny (model prog w) A (.compLoop (.SetComp elt [⟨target, iter, ifs, 0⟩] scope pos) 0 it' acc env) R s') (notedBy (model prog w) A env fun x s' => R (.error x) s') s) :
    codeAny (model prog w) A (.compStart (.SetComp elt [⟨target, iter, ifs, 0⟩] scope pos) 0 it acc env) R s := by
  refine codeAny_of_tree ?_
  show wpAny _ _ ((compStart (.SetComp elt [⟨target, iter, ifs, 0⟩] scope pos) 0 it acc env).onRaise (fun x => do noteFrame x env; standAt theWindowsPlace)) _ _ s
  refine wpAny_notedAt ?_
  unfold compStart
  show wpAny _ _ (ask >>= _) _ _ s
  refine wpAny_bind (wpAny_askSetting (wpAny_ite ?_))
  split
  · first
      | exact wpAny_bind (wpAny_pure (wpAny_pure (And.intro rfl h0)))
      | exact wpAny_pure (And.intro rfl h0)
  · first
      | exact wpAny_bind (wpAny_rule (wpAny_bind (wpAny_standAt (wpAny_bind (wpAny_mono h (fun it' s' h' => wpAny_pure (And.intro rfl h')) fun _ _ x => x)))))
      | (refine wpAny_bind (wpAny_rule ?_); show wpAny _ _ (standAt iter.pos >>= _) _ _ s; exact wpAny_bind (wpAny_standAt (wpAny_bind (wpAny_mono h (fun it' s' h' => wpAny_pure (And.intro rfl h')) fun _ _ x => x))))

theorem compLoop_set {elt iter : Expr} {x : Str} {px : Pos} {scope : Scope} {pos : Pos} {it acc : Value} {env : Env} (I : Nat → Shared → Prop)
    (turn : ∀ n s, I n s → wpAny (model prog w) A (pyNext it) (fun r s₁ => match r with
      | none => R (.ok .next) s₁
      | some v => wpAny (model prog w) A (assign (.Name x px) env v) (fun _ s₂ => wpAny (model prog w) A (eval elt env) (fun y s₄ =>
              wpAny (model prog w) A (call (.builtin "set.add") [acc, y]) (fun _ s₅ => ∃ m, m < n ∧ I m s₅) (notedBy (model prog w) A env fun e s' => R (.error e) s') s₄) (notedBy (model prog w) A env fun e s' => R (.error e) s') s₂)
          (notedBy (model prog w) A env fun e s' => R (.error e) s') s₁) (notedBy (model prog w) A env fun e s' => R (.error e) s') s)
    (n : Nat) (h : I n s) : codeAny (model prog w) A (.compLoop (.SetComp elt [⟨.Name x px, iter, [], 0⟩] scope pos) 0 it acc env) R s := by
  refine codeAny_loop rfl I (fun n s hI => ?_) n h
  show wpAny _ A ((compTurn (.SetComp elt [⟨.Name x px, iter, [], 0⟩] scope pos) 0 it acc env).onRaise (fun x => do noteFrame x env; theTreesLotGoes x)) _ _ s
  refine wpAny_noted ?_
  rw [compTurn_set]
  refine wpAny_bind (wpAny_standAt (wpAny_bind (wpAny_mono (turn n s hI) (fun r s₁ h₁ => ?_) fun _ _ h' => h')))
  cases r with
  | none => exact wpAny_pure h₁
  | some v =>
    refine wpAny_bind (wpAny_pure ?_)
    refine wpAny_bind (wpAny_mono h₁ (fun _ s₂ h₂ => ?_) fun _ _ h' => h')
    show wpAny _ _ ((forIn [] true _ : Sem Bool) >>= _) _ _ _
    rw [List.forIn_nil]
    refine wpAny_bind (wpAny_pure ?_)
    simp only [if_true]
    exact wpAny_bind (wpAny_bind (wpAny_mono h₂ (fun y s₄ h₄ => wpAny_bind (wpAny_standAt (wpAny_bind (wpAny_mono h₄ (fun _ s₅ h₅ => wpAny_pure (wpAny_pure ⟨rfl, h₅⟩)) fun _ _ h' => h')))) fun _ _ h' => h'))

/-- a set of one element taken apart -/
theorem unpack_set {a : Addr} {led : Bool} {Q : List Value → Shared → Prop} (hh : A.handled = none) (g : s.heap.get? a = some (S1 led)) (hled : led = !w.params.followText "set-order") (hQ : ∀ h', Grow s.heap h' → Q [.bool true] { s with heap := h' }) :
    wpAny (model prog w) A (unpackItems (.ref a) 1 none) Q E s := by
  have hT : s.TypeIs (.ref a) "set" := ⟨_, g, rfl⟩
  unfold unpackItems
  refine wpAny_bind ?_
  unfold notIterableAtAll
  refine wpAny_bind (wpAny_specialOf hT F.slot_set_iter.lookup ?_)
  refine wpAny_pure ?_
  simp only [Bool.false_eq_true, if_false]
  have hne : a ≠ s.heap.objs.size := Nat.ne_of_lt (Heap.lt_size g)
  refine wpAny_bind (wpAny_holding (set_iter g fun h1 hi1 g1 => ?_))
  have ga := g1 _ _ g
  refine wpAny_bind (wpAny_holding ?_)
  unfold draw
  refine wpAny_bind (si_item (s := { s with heap := h1 }) ga hled hi1 hne fun h2 k hk hi2 hs2 => ?_)
  dsimp only
  unfold draw
  refine wpAny_bind (wpAny_holding (wpAny_pure (wpAny_pure ?_)))
  simp only [List.length_singleton, Nat.lt_irrefl, if_false]
  have ga2 : h2.get? a = some (S1 led) := hs2.extBut a _ hne ga
  refine wpAny_bind (wpAny_holding (si_end (s := { s with heap := h2 }) hh ga2 hled hi2 hk fun h3 he3 => ?_))
  simp only [Option.isSome_none, Bool.false_eq_true, if_false]
  refine wpAny_pure (hQ h3 fun b o e => ?_)
  have hb : b ≠ s.heap.objs.size := Nat.ne_of_lt (Heap.lt_size e)
  exact he3 b o hb (hs2.extBut b o hb (g1 _ _ e))
end
end Mine
end

section
open PySem PySem.W PyProof.Rows
open Sem (wp)
set_option maxRecDepth 100000

namespace Mine
set_option tactic.hygienic false
section
variable {prog : Program} {w : World} {W : Wh} {H : Heap} {C : String → List PyData → Option PyData} {K : PyData → PyData → PyData → Option PyData} {n : Nat}

theorem set_mid {elt : X} {v : String} {el it : Expr} {px : Pos} {cs : Scope} {cpos : Pos} {cl : List (Str × Addr)} {A : Around} {env : Env} {ex own : List Addr} {ρ : Ro} {s₂ : Shared} {E : Value → Shared → Prop}
    {RR : Value → Addr → Result → Shared → Prop} {I : Addr} {wr : List Addr} {ds : List PyData} {St : Nat → Heap → Prop}
    (c : Ctxt W H n A env ex own ρ s₂) (hB : compB env.scope cs (Str.ofString v) = true) (hcl : ∀ x c, (x, NameKind.free) ∈ cs.names → env.cells.lookup x = some c → cl.lookup x = some c)
    (hel : chX (relabelS cs env.scope) elt el = true)
    (Wt : Wk prog w A s₂.heap (own ++ ex) I wr ds St) (st0 : St 0 s₂.heap) (hwr : ∀ b ∈ wr, H.get? b = none) (xe : XE prog w W H C K n elt)
    (hev : ∀ d ∈ ds, evX C K (upd ρ v (.val d)) elt = some (.bool true))
    (hRR : ∀ D Cc h' tk m', s₂.heap.get? D = none → s₂.heap.get? Cc = none → D ≠ Cc → h'.Ns Cc m' → (0 < ds.length → h'.get? D = some (S1 (!w.params.followText "set-order"))) →
      (∀ b o, b ∉ wr → s₂.heap.get? b = some o → h'.get? b = some o) → RR (.ref D) Cc (.ok .next) { s₂ with heap := h', toks := tk }) :
    wpAny (model prog w) A (newSet (.type "set")) (fun acc s₃ => wpAny (model prog w) A (newFunctionEnv cs env.globals cl [] env.qual none .none (some env)) (fun cenv s₄ =>
      codeAny (model prog w) A (.compStart (.SetComp el [⟨.Name (Str.ofString v) px, it, [], 0⟩] cs cpos) 0 (.ref I) acc { cenv with scope := relabel cs env }) (RR acc cenv.locals) s₄) E s₃) E s₂ := by
  refine e0_5 (compB_of hB) fun b1 b2 b3 b4 b5 => ?_
  have hk0 := c.eo.kind
  refine newSet_ (wpAny_newFunctionEnv b2 (by intro y hy; simp at hy) (fun h₁ hns₁ hsb₁ => ?_) b1)
  generalize hled : (!w.params.followText "set-order") = led at *
  dsimp only at hns₁ hsb₁ ⊢
  generalize hH2 : s₂.heap.push (S0 led) = H2 at hns₁ hsb₁ ⊢
  have hC : H2.objs.size = s₂.heap.objs.size + 1 := by rw [← hH2, Heap.size_push]
  generalize hDe : s₂.heap.objs.size = D at *
  generalize hCe : H2.objs.size = Cc at *
  have hDC : D ≠ Cc := by lia
  have fresh : ∀ a, D ≤ a → s₂.heap.get? a = none := fun a ha => Grow.fresh (by lia)
  have hDn : s₂.heap.get? D = none := fresh _ (Nat.le_refl _)
  have hCn : s₂.heap.get? Cc = none := fresh _ (by lia)
  have old : ∀ b o, s₂.heap.get? b = some o → h₁.get? b = some o := fun b o e => hsb₁.extBut b o (by rintro rfl; exact nsm hCn e) (Heap.get?_push_of_some _ (hH2 ▸ Heap.get?_push_of_some _ e))
  have hacc : h₁.get? D = some (S0 led) := by
    refine hsb₁.extBut _ _ hDC (Heap.get?_push_of_some _ ?_)
    rw [← hH2, ← hDe]; exact Heap.get?_push_size _ rfl
  have wrD : ∀ b ∈ wr, b ≠ D ∧ b ≠ Cc := fun b hb => by
    refine e2_2 (Wt.flds 0 _ st0 b hb) fun o vs e zz => ?_
    exact ⟨(by rintro rfl; exact nsm hDn e), (by rintro rfl; exact nsm hCn e)⟩
  have st1 : St 0 h₁ := Wt.frame 0 _ _ st0 (fun b o _ _ e => old b o e) fun b hb o e => old b o e
  have loop : ∀ s₃ : Shared, s₃ = { s₂ with heap := h₁, toks := s₂.toks + ([] : List (Str × Value)).length } →
      codeAny (model prog w) A (.compLoop (.SetComp el [⟨.Name (Str.ofString v) px, it, [], 0⟩] cs cpos) 0 (.ref I) (.ref D) (compEnvC cs cl Cc env)) (RR (.ref D) Cc) s₃ := by
    rintro s₃ rfl
    refine compLoop_set
      (fun k s' => ∃ h tk m' i, s' = { s₂ with heap := h, toks := tk } ∧ St i h ∧ h.get? D = some (if i = 0 then S0 led else S1 led) ∧ h.Ns Cc m' ∧ i ≤ ds.length ∧ k = ds.length + 1 - i ∧
        (∀ b o, b ∉ wr → s₂.heap.get? b = some o → h.get? b = some o)) ?_ (ds.length + 1)
      ⟨h₁, _, _, 0, rfl, st1, hacc, hns₁, Nat.zero_le _, rfl, fun b o _ e => old b o e⟩
    rintro k s' ⟨h, tk, m', i, rfl, hst, hD, hn, hi, rfl, hk⟩
    by_cases hlt : i < ds.length
    · have hd : ds[i]? = some ds[i] := List.getElem?_eq_getElem hlt
      refine Wt.item i ds[i] { s₂ with heap := h, toks := tk } _ _ hd hst fun u h' tk' hu hst' hk' => ?_
      have hD' := hk' _ _ (fun hb => (wrD _ hb).1 rfl) hD
      have hn' : h'.Ns Cc m' := hn.at' fun o e => hk' _ _ (fun hb => (wrD _ hb).2 rfl) e
      have xloc : (compEnvC cs cl Cc env).kindOf (Str.ofString v) = some .local := by
        have e := relabel_lookup cs env hk0 (Str.ofString v)
        show (relabel cs env).names.lookup _ = _
        rw [e, b4]; rfl
      refine wpAny_assign_Name (wpAny_storeName_local xloc hn' (fun h₂ hn₂ hs₂ => ?_) (by show (cs.kind == .class || (cs.kind == .module && _)) = false; rw [b1]; rfl))
      have hD₂ := hs₂.extBut _ _ hDC hD'
      have keep₂ : ∀ b o, b ∉ wr → s₂.heap.get? b = some o → h₂.get? b = some o := fun b o hb e => hs₂.extBut b o (by rintro rfl; exact nsm hCn e) (hk' b o hb (hk b o hb e))
      have hst₂ : St (i + 1) h₂ := Wt.frame _ _ _ hst' (fun b o hx q e => keep₂ b o (fun hb => by
        refine e2_2 (Wt.flds 0 _ st0 b hb) fun o' vs' e' q' => ?_
        rw [e] at e'; cases e'
        refine e2_1 (q) fun xs mm q => ?_
        rw [q] at q'; cases q') e) fun b hb o e => hs₂.extBut b o (wrD b hb).2 e
      have hu' : Rep h₂ (D :: (own ++ ex)) u ds[i] := by
        refine (hu (D :: (own ++ ex)) fun a ha => ?_).keep fun b o hb q e => hs₂.extBut b o ?_ e
        · rcases List.mem_cons.mp ha with rfl | ha
          · exact ⟨.inr hDn, _, hD⟩
          · refine e1_1 (c.old a ha) fun o e => ?_
            refine ⟨.inl ha, ?_⟩
            by_cases hb : a ∈ wr
            · obtain ⟨o', vs', e', _⟩ := Wt.flds i _ hst a hb; exact ⟨o', e'⟩
            · exact ⟨o, hk a o hb e⟩
        · rintro rfl
          refine e3_3 (hn') fun o' es ep g' q' zz => ?_
          rw [e] at g'; cases g'
          refine e2_1 (q) fun xs mm q => ?_
          rw [q] at q'; cases q'
      have nofld : ∀ b o, (∀ vs, o.data ≠ .fields vs) → s₂.heap.get? b = some o → h₂.get? b = some o := fun b o hf e => keep₂ b o (fun hb => by
        refine e2_2 (Wt.flds 0 _ st0 b hb) fun o' vs' e' q' => ?_
        rw [e] at e'; cases e'
        exact hf _ q') e
      have gH : Grow H h₂ := fun b o e => keep₂ b o (fun hb => by rw [hwr b hb] at e; cases e) (c.st.grow b o e)
      refine e1_1 (c.st.names) fun σ N => ?_
      have ctx : Ctxt W H n A (compEnvC cs cl Cc env) ex (D :: own) (upd ρ v (.val ds[i])) { s₂ with heap := h₂, toks := tk' + 1 } := {
        room := c.room
        eo := ⟨b1, c.eo.g, c.eo.b⟩
        st := comp_St hk0 N hB hcl nofld gH hDn hCn hn₂ (by simp) hu'
        old := fun a ha => by
          rcases List.mem_cons.mp ha with rfl | ha
          · exact ⟨_, hD₂⟩
          · refine e1_1 (c.old a ha) fun o e => ?_
            by_cases hb : a ∈ wr
            · obtain ⟨o', vs', e', _⟩ := Wt.flds (i+1) _ hst₂ a hb; exact ⟨o', e'⟩
            · exact ⟨o, keep₂ a o hb e⟩ }
      refine xe A (compEnvC cs cl Cc env) ex (D :: own) (upd ρ v (.val ds[i])) { s₂ with heap := h₂, toks := tk' + 1 } el _ _ _ ctx hel (hev ds[i] (List.getElem_mem hlt)) fun yv h₄ tk₄ g₄ ry => ?_
      cases ry
      have done : ∀ (h₅ : Heap) (tk₅ : Nat), (∀ b o, b ≠ D → h₄.get? b = some o → h₅.get? b = some o) → h₅.get? D = some (S1 led) →
          ∃ m, m < ds.length + 1 - i ∧ ∃ h tk m' i, ({ s₂ with heap := h₅, toks := tk₅ } : Shared) = { s₂ with heap := h, toks := tk } ∧ St i h ∧ h.get? D = some (if i = 0 then S0 led else S1 led) ∧ h.Ns Cc m' ∧ i ≤ ds.length ∧ m = ds.length + 1 - i ∧
            (∀ b o, b ∉ wr → s₂.heap.get? b = some o → h.get? b = some o) := by
        intro h₅ tk₅ k5 g5
        refine ⟨ds.length + 1 - (i + 1), by lia, h₅, tk₅, _, i + 1, rfl, ?_, by simpa using g5, hn₂.at' fun o e => k5 _ _ (Ne.symm hDC) (g₄ _ _ e), by lia, rfl, fun b o hb e => k5 b o (by rintro rfl; exact nsm hDn e) (g₄ _ _ (keep₂ b o hb e))⟩
        exact Wt.frame _ _ _ hst₂ (fun b o hx q e => k5 b o (by rintro rfl; exact nsm hDn e) (g₄ _ _ (Wt.kept _ _ hst₂ b o hx q e))) fun b hb o e => k5 b o (wrD b hb).1 (g₄ _ _ e)
      have hD₄ := g₄ _ _ hD₂
      by_cases hi0 : i = 0
      · simp only [if_pos hi0] at hD₄
        exact set_add0 (s := { s₂ with heap := h₄, toks := tk₄ }) hD₄ fun h₅ tk₅ hs₅ g5 => done h₅ tk₅ (fun b o hb e => hs₅.extBut b o hb e) g5
      · simp only [if_neg hi0] at hD₄
        exact set_add1 (s := { s₂ with heap := h₄, toks := tk₄ }) hD₄ fun tk₅ => done h₄ tk₅ (fun b o hb e => e) hD₄
    · have hin : i = ds.length := by lia
      subst hin
      refine Wt.done { s₂ with heap := h, toks := tk } _ _ hst fun h' tk' hk' => ?_
      refine hRR D Cc h' tk' m' hDn hCn hDC (hn.at' fun o e => hk' _ _ (fun hb => (wrD _ hb).2 rfl) e) (fun hpos => ?_) fun b o hb e => hk' b o hb (hk b o hb e)
      rw [if_neg (Nat.ne_of_gt hpos)] at hD
      exact hk' _ _ (fun hb => (wrD _ hb).1 rfl) hD
  exact compStart_set (loop _ rfl) (Wt.self 0 _ _ _ st1 (loop _ rfl))

set_option tactic.hygienic true in
theorem s_setTrue {v p : String} {src sep : X} (xs : XE prog w W H C K n src) (xe : XE prog w W H C K n (.meth "startswith" (.var p) [sep])) : SP prog w W H C K n (.setTrue v p src sep) := fun A env ex own ρ ρ' s t o Q E c hc hv hQ => by
  refine invS_setTrue (P := fun t => wpAny (model prog w) A (exec t env) Q E s) (fun t1 k1 p1 p' pp nm apos sp cpos x px it cs cp pos hc => ?_) hc
  · skip
    simp only [Bool.and_eq_true] at hc
    refine l6 (hc) fun h1 h2 h3 h4 h5 h6 => ?_
    have h3 := str_eq h3; subst h3
    refine e1_2 (nameB_of h1) fun q ze6 hs => ?_; subst ze6
    dsimp only [exS_setTrue] at hv
    first | refine oV hv fun xv hxv hv => ?_ | refine oC hv fun xv hxv hv => ?_ | refine oO hv fun xv hxv hv => ?_ | refine oI hv fun xv hxv hv => ?_ | refine oT hv fun xv hxv hv => ?_ | refine opS2D hv fun xv hxv hv => ?_ | refine opS2L hv fun xv hxv hv => ?_ | refine opS2B hv fun xv hxv hv => ?_ | refine opS2S hv fun xv hxv hv => ?_
    · skip
      split at hv
      · rename_i d ds hds
        first | refine oV hv fun out hout hv => ?_ | refine oC hv fun out hout hv => ?_ | refine oO hv fun out hout hv => ?_ | refine oI hv fun out hout hv => ?_ | refine oT hv fun out hout hv => ?_ | refine opS2D hv fun out hout hv => ?_ | refine opS2L hv fun out hout hv => ?_ | refine opS2B hv fun out hout hv => ?_ | refine opS2S hv fun out hout hv => ?_
        · skip
          refine if_el (fun hall hv => ?_) hv
          · skip
            cases hv
            have hout' : compD (turnD C K ρ p (.meth "startswith" (.var p) [sep]) .nil) (d :: ds) = some out := by
              have : turnD C K ρ p (.meth "startswith" (.var p) [sep]) .nil = fun d => match evX C K (upd ρ p (.val d)) (.meth "startswith" (.var p) [sep]) with | some y => some (some y) | none => none := by
                funext d
                unfold turnD
                simp only [evT_nil]
                cases evX C K (upd ρ p (.val d)) (.meth "startswith" (.var p) [sep]) <;> rfl
              rw [this]; exact hout
            refine e0_2 (compD_all hout') fun hsome houteq => ?_
            have hev : ∀ e ∈ d :: ds, evX C K (upd ρ p (.val e)) (.meth "startswith" (.var p) [sep]) = some (.bool true) := by
              intro e he
              have h9 := hsome e he
              unfold turnD at h9
              simp only [evT_nil] at h9
              cases hx : evX C K (upd ρ p (.val e)) (.meth "startswith" (.var p) [sep]) with
              | none => rw [hx] at h9; cases h9
              | some y =>
                have hy : y ∈ out := by
                  rw [houteq]
                  refine List.mem_filterMap.mpr ⟨e, he, ?_⟩
                  unfold turnD
                  simp only [evT_nil, hx]
                  rfl
                have := List.all_eq_true.mp hall y hy
                split at this
                · rfl
                · exact absurd this Bool.false_ne_true
            refine e0_5 (compB_of h2) fun b1 b2 b3 b4 b5 => ?_
            refine e1_1 ((c.x W H n).st.names) fun σ0 N0 => ?_
            obtain ⟨cl, hclos, hcl⟩ := closure_ok (cs := cs) (env := env) fun y hy e => by
              refine e1_2 (N0.2.1 y.1 (b5 y hy e)) fun cc hh1 zz => ?_
              exact ⟨cc, hh1⟩
            refine Assign_Tuple ?_ rfl rfl
            -- the set
            have mk : ∀ (Q' E' : Value → Shared → Prop), (∀ D h' tk, Grow s.heap h' → h'.get? D = some (S1 (!w.params.followText "set-order")) → Q' (.ref D) { s with heap := h', toks := tk }) →
                wpAny (model prog w) A (eval (.SetComp (.Call (.Attribute (.Name p' pp) nm apos) [sp] [] cpos) [⟨.Name (Str.ofString p) px, it, [], 0⟩] cs cp) env) Q' E' s := by
              intro Q' E' hq
              show wpAny _ _ (comprehension _ cs env _ (newSet (.type "set")) false (eval it env) none) _ _ _
              refine wpAny_comprehension_free (use := none) rfl (notSet_of h5) hclos b1 (fun y hy e => (b3 y hy e).2) ?_
              refine src_ok (c.x W H n) h4 xs hxv hds _ _ fun it' h' tk wr I St hI g Wt st0 hwr => ?_
              subst hI
              refine set_mid (RR := fun acc Cc => compPost (model prog w) A E' none Q' acc Cc) ((c.x W H n).up W H n g) h2 hcl h6 Wt st0 (fun b hb => ?_) xe hev fun D Cc h'' tk' m' hD hC hDC hn hl hk => ?_
              · cases e : H.get? b with
                | none => rfl
                | some o => have := c.st.grow b o e; rw [hwr b hb] at this; cases this
              · have fr : ∀ a, h'.get? a = none → s.heap.get? a = none := fun a ha => by
                  cases e : s.heap.get? a with
                  | none => rfl
                  | some o => rw [g a o e] at ha; cases ha
                refine ⟨m', hn, fun h3 hs3 => hq D h3 tk' (fun b o e => hs3.extBut b o (by rintro rfl; rw [fr _ hC] at e; cases e) (hk b o (fun hb => by rw [hwr b hb] at e; cases e) (g b o e))) (hs3.extBut D _ hDC (hl (by simp)))⟩
            refine mk _ _ fun D h' tk g gD => ?_
            rw [assign_Tuple]
            refine wpAny_bind (wpAny_standAt ?_)
            unfold unpack
            refine wpAny_bind (wpAny_holding (unpack_set (s := { s with heap := h', toks := tk }) c.room.handled gD rfl fun h2' g2 => ?_))
            refine assignInOrder_cons (PyProof.Rows.assign_Name (store_val (c.up W H n (h' := h2') (tk := tk) (g.trans g2)) (seen_of hs) (.bool true) fun h3' tk3 S3 c3 => ?_))
            refine assignInOrder_nil ?_
            exact hQ h3' tk3 own .next S3 (((g.trans g2).chg _ _).trans (Newer.refl _ _) c3) (Newer.refl _ _) trivial
      · exact nos hv
end
end Mine
end

section
open PySem PySem.W PyProof.Rows

namespace Mine
set_option tactic.hygienic false
section
variable {prog : Program} {w : World} {W : Wh} {H : Heap} {C : String → List PyData → Option PyData} {K : PyData → PyData → PyData → Option PyData} {n : Nat}
variable (W' : WdOk prog w W H) (hC : CallOk prog w W H C n) (hK : CmpOk prog w W H K n) (hM : MapOk prog w W H n)
include W' hC hK hM
mutual
theorem S_all : ∀ st : S, SP prog w W H C K n st
  | .assign v e => s_assign (X_all W' hC hK hM e).1
  | .assignC v e => s_assignC (X_all W' hC hK hM e).1 (fun elt y src cond _ => ⟨(X_all W' hC hK hM src).1, (X_all W' hC hK hM elt).1, (X_all W' hC hK hM cond).2⟩) (fun elt y k _ => ⟨(X_all W' hC hK hM elt).1, t_nil⟩) W'
  | .setTrue v p src sep => s_setTrue (X_all W' hC hK hM src).1 (X_all W' hC hK hM (.meth "startswith" (.var p) [sep])).1
  | .unpack vs e => s_unpack (X_all W' hC hK hM e).1
  | .swap vs es => s_swap fun x hx => (Xs_all W' hC hK hM es x hx).1
  | .swapOwn v x e => s_swapOwn (X_all W' hC hK hM e).1
  | .swapComp v x k => s_swapComp W' hK (X_all W' hC hK hM k).1
  | .newOwn v => s_newOwn
  | .freeze x v => s_freeze
  | .append v e => s_append (X_all W' hC hK hM e).1
  | .pop v => s_pop
  | .aug v e => s_aug (X_all W' hC hK hM e).1
  | .ite t a b => s_ite (X_all W' hC hK hM t).2 (Ss_all a) (Ss_all b)
  | .whl t a => s_whl (X_all W' hC hK hM t).2 (Ss_all a)
  | .for1 v src a => s_for1 (X_all W' hC hK hM src).1 (Ss_all a)
  | .forT vs src a => s_forT (X_all W' hC hK hM src).1 (Ss_all a)
  | .forR v lo hi a => s_forR W' (X_all W' hC hK hM lo).1 (X_all W' hC hK hM hi).1 (Ss_all a)
  | .forE i v src a => s_forE W' (X_all W' hC hK hM src).1 (Ss_all a)
  | .ret e => s_ret (X_all W' hC hK hM e).1
  | .brk => s_brk
  | .cont => s_cont
  | .try_ a => s_try (Ss_all a)
  | .dead => s_dead
theorem Ss_all : ∀ sts : List S, SPs prog w W H C K n sts
  | [] => ss_nil
  | st :: r => ss_cons (S_all st) (Ss_all r)
end
end
end Mine
end

section
open PySem PySem.W PyProof.Rows

namespace Mine
set_option tactic.hygienic false
/-! looks at a def in the head's heap -/
theorem gS_ex {α : Type} {f : α → Bool} {o : Option α} (h : gS o f = true) : ∃ x, o = some x ∧ f x = true := gS_el (P := fun o => ∃ x, o = some x ∧ f x = true) (fun x h => ⟨x, rfl, h⟩) h
noncomputable def vRef (v : Value) (k : Addr → Bool) : Bool := if h : v.ctorIdx = 10 then Value.ref.elim (motive := fun _ => Bool) v h k else false
theorem vRef_el {f : Addr → Bool} {v : Value} (h : vRef v f = true) : ∃ a, v = .ref a ∧ f a = true := look (fun c => Value.ref.elim (motive := fun v => vRef v f = true → ∃ a, v = .ref a ∧ f a = true) v c (fun a h => ⟨a, rfl, h⟩) h) h
noncomputable def vStr (v : Value) (k : Str → Bool) : Bool := if h : v.ctorIdx = 6 then Value.str.elim (motive := fun _ => Bool) v h (fun s _ => k s) else false
theorem vStr_el {f : Str → Bool} {v : Value} (h : vStr v f = true) : ∃ s t, v = .str s t ∧ f s = true := look (fun c => Value.str.elim (motive := fun v => vStr v f = true → ∃ s t, v = .str s t ∧ f s = true) v c (fun s t h => ⟨s, t, rfl, h⟩) h) h
noncomputable def dFunc (d : Data) (k : FuncData → Bool) : Bool := if h : d.ctorIdx = 7 then Data.func.elim (motive := fun _ => Bool) d h k else false
theorem dFunc_el {f : FuncData → Bool} {d : Data} (h : dFunc d f = true) : ∃ x, d = .func x ∧ f x = true := look (fun c => Data.func.elim (motive := fun d => dFunc d f = true → ∃ x, d = .func x ∧ f x = true) d c (fun x h => ⟨x, rfl, h⟩) h) h
noncomputable def dFields (d : Data) (k : Array Value → Bool) : Bool := if h : d.ctorIdx = 9 then Data.fields.elim (motive := fun _ => Bool) d h k else false
theorem dFields_el {f : Array Value → Bool} {d : Data} (h : dFields d f = true) : ∃ x, d = .fields x ∧ f x = true := look (fun c => Data.fields.elim (motive := fun d => dFields d f = true → ∃ x, d = .fields x ∧ f x = true) d c (fun x h => ⟨x, rfl, h⟩) h) h
noncomputable def bSt (d : FuncBody) (k : List Stmt → Bool) : Bool := if h : d.ctorIdx = 0 then FuncBody.stmts.elim (motive := fun _ => Bool) d h k else false
theorem bSt_el {f : List Stmt → Bool} {d : FuncBody} (h : bSt d f = true) : ∃ x, d = .stmts x ∧ f x = true := look (fun c => FuncBody.stmts.elim (motive := fun d => bSt d f = true → ∃ x, d = .stmts x ∧ f x = true) d c (fun x h => ⟨x, rfl, h⟩) h) h
noncomputable def codeB (K : Frag) (fd : FuncData) : Bool := vRef fd.code fun c => gS (K.lookup c) fun o => dFields o.data fun vs => gS (vs[1]? : Option Value) fun v => vStr v fun q => q == fd.qualname
theorem codeB_of {H : Heap} {K : Frag} {fd : FuncData} (X : K.In H) (h : codeB K fd = true) : H.CodeRec fd.code fd.qualname := by
  refine e1_2 (vRef_el h) fun c hc k1 => ?_
  refine e1_2 (gS_ex k1) fun o ho k2 => ?_
  refine e1_2 (dFields_el k2) fun vs hv k3 => ?_
  refine e1_2 (gS_ex k3) fun v h1 k4 => ?_
  refine e2_2 (vStr_el k4) fun q t e k5 => ?_
  exact ⟨c, o, vs, t, hc, X _ _ ho, hv, by rw [h1, e, eq_of_beq k5]⟩
noncomputable def plainFd (K : Frag) (fd : FuncData) (fx : FX) : Bool :=
  fd.closure.isEmpty && scopeB fd.scope && paramB fd.scope fx fd.params && fd.globals == mainGlobals && fd.builtins == builtinsNs && fd.defaults == .none && codeB K fd
theorem plainFd_of {H : Heap} {K : Frag} {fd : FuncData} {fx : FX} (X : K.In H) (h : plainFd K fd fx = true) :
    fd.closure = [] ∧ H.CodeRec fd.code fd.qualname ∧ scopeB fd.scope = true ∧ paramB fd.scope fx fd.params = true ∧ fd.globals = mainGlobals ∧ fd.builtins = builtinsNs ∧ fd.defaults = .none :=
  and7 (fun h2 h3 h4 h5 h6 h7 h8 => ⟨List.isEmpty_iff.mp h2, codeB_of X h8, h3, h4, eq_of_beq h5, eq_of_beq h6, eq_of_beq h7⟩) h


theorem zip_lookup : ∀ (names : List Str) (vs : List Value), names.length ≤ vs.length → ∀ n ∈ names, ((names.zip vs).lookup n).isSome = true
  | [], _, _, n, h => nomatch h
  | m :: r, [], h, _, _ => by simp at h
  | m :: r, v :: vs, h, n, hn => by
    rw [List.zip_cons_cons, List.lookup_cons]
    by_cases e : n = m
    · subst e; simp
    · have e' : (n == m) = false := beq_eq_false_iff_ne.mpr e
      rw [e']
      rcases List.mem_cons.mp hn with h' | h'
      · exact absurd h' e
      · exact zip_lookup r vs (by simpa using h) n h'

theorem filterMap_same {α β : Type} {f g : α → Option β} : ∀ (l : List α), (∀ a ∈ l, f a = g a) → l.filterMap f = l.filterMap g
  | [], _ => rfl
  | a :: l, h => by rw [List.filterMap_cons, List.filterMap_cons, h a (.head _), filterMap_same l fun b hb => h b (.tail _ hb)]
theorem filterMap_zip : ∀ (names : List Str) (vs : List Value), names.Nodup → names.length ≤ vs.length → names.filterMap (fun n => ((names.zip vs).lookup n).map (n, ·)) = names.zip vs
  | [], _, _, _ => rfl
  | m :: r, [], _, h => by simp at h
  | m :: r, v :: vs, hn, h => by
    rw [List.zip_cons_cons, List.filterMap_cons]
    simp only [List.lookup_cons, beq_self_eq_true, Option.map_some]
    congr 1
    have hm := (List.nodup_cons.mp hn)
    have : ∀ n ∈ r, (n == m) = false := fun n hnr => beq_eq_false_iff_ne.mpr fun e => hm.1 (e ▸ hnr)
    refine Eq.trans (filterMap_same (g := fun n => ((r.zip vs).lookup n).map (n, ·)) r fun n hnr => ?_) (filterMap_zip r vs hm.2 (by simpa using h))
    rw [this n hnr]

section
variable {prog : Program} {w : World} {A : Around} {s : Shared} {E : Value → Shared → Prop}

theorem bind_ok {fd : FuncData} {vs : List Value} {Q : List (Str × Value) → Shared → Prop} (hp : fd.params.posonlyargs = []) (hk : fd.params.kwonlyargs = []) (hkw : fd.params.kwarg = none) (hd : fd.defaults = .none)
    (hn : (fd.params.args.map (·.arg)).Nodup) (hl : (fd.params.args.map (·.arg)).length ≤ vs.length) (hv : fd.params.vararg = none → vs.length ≤ (fd.params.args.map (·.arg)).length)
    (h : match fd.params.vararg with
      | none => Q ((fd.params.args.map (·.arg)).zip vs) s
      | some a => wpAny (model prog w) A (newTuple (vs.drop (fd.params.args.map (·.arg)).length)) (fun t s' => Q ((fd.params.args.map (·.arg)).zip vs ++ [(a.arg, t)]) s') E s) :
    wpAny (model prog w) A (bindArgs fd ⟨vs, []⟩) Q E s := by
  generalize hnames : fd.params.args.map (·.arg) = names at *
  unfold bindArgs
  simp only [hp, hk, hkw, hd, List.map_nil, List.nil_append, hnames, List.append_nil]
  have e1 : (decide (vs.length > names.length) && fd.params.vararg.isNone) = false := by
    cases hva : fd.params.vararg with
    | none => have := hv hva; simp; omega
    | some a => simp
  have e2 : (names.take names.length).filter (fun n => ((names.zip vs).lookup n).isNone) = [] := by
    rw [List.filter_eq_nil_iff]
    intro n hm
    have := zip_lookup names vs hl n (List.mem_of_mem_take hm)
    cases e : (names.zip vs).lookup n with
    | none => rw [e] at this; cases this
    | some _ => simp
  have e3 : seqItems? Value.none = pure none := rfl
  have e4 : ((none : Option (Array Value)).getD #[]).toList = [] := rfl
  simp only [e3, pure_bind, e4, e1, Bool.false_eq_true, if_false, List.drop_nil, List.length_nil, Nat.sub_zero, e2, List.isEmpty_nil, Bool.not_true, List.zip_nil_right, List.forIn_nil, filterMap_zip names vs hn hl]
  cases hva : fd.params.vararg with
  | none => rw [hva] at h; exact wpAny_pure h
  | some a => rw [hva] at h; exact wpAny_bind (wpAny_mono h (fun t s' h' => wpAny_pure h') fun _ _ e => e)
end
end Mine
end

section
open PySem PySem.W PyProof.Rows

namespace Mine
set_option tactic.hygienic false

theorem WdOk.up {prog : Program} {w : World} {W : Wh} {H H' : Heap} (x : WdOk prog w W H) (g : Grow H H') : WdOk prog w W H' :=
  ⟨x.g.keeps g, x.b.keeps g, x.lim.keeps g, x.bis, x.range, x.sorted, x.enum, x.map, x.isi, x.bytes⟩
theorem CallOk.up {prog : Program} {w : World} {W : Wh} {H H' : Heap} {C : String → List PyData → Option PyData} {n : Nat} (x : CallOk prog w W H C n) (g : Grow H H') : CallOk prog w W H' C n := fun f ds d h =>
  let ⟨a, o, fd, h1, h2, h3, h4⟩ := x f ds d h
  ⟨a, o, fd, h1, g _ _ h2, h3, fun A s vs ex Q E r gs => h4 A s vs ex Q E r (g.trans gs)⟩
theorem CmpOk.up {prog : Program} {w : World} {W : Wh} {H H' : Heap} {K : PyData → PyData → PyData → Option PyData} {n : Nat} (x : CmpOk prog w W H K n) (g : Grow H H') : CmpOk prog w W H' K n where
  cls := x.cls
  with_ := fun A s env pos e Q E h hh => x.with_ A s env pos e Q E h (wpAny_mono hh (fun _ _ y => ⟨g.trans y.1, y.2⟩) fun _ _ y => y)
  make := fun A s v k ex L Q E r gs => x.make A s v k ex L Q E r (g.trans gs)
  attr := fun A s b k ex L y Q E gs => x.attr A s b k ex L y Q E (g.trans gs)
  meth := let ⟨f, o, fd, h1, h2, h3, h4⟩ := x.meth
    ⟨f, o, fd, g _ _ h1, h2, fun A s b k ex L pl Q E gs => h3 A s b k ex L pl Q E (g.trans gs), fun A s b k l r d vl vr ex L Q E e rm gs => h4 A s b k l r d vl vr ex L Q E e rm (g.trans gs)⟩
theorem MapOk.up {prog : Program} {w : World} {W : Wh} {H H' : Heap} {n : Nat} (x : MapOk prog w W H n) (g : Grow H H') : MapOk prog w W H' n :=
  let ⟨a, h1, h2⟩ := x
  ⟨a, h1, fun A s v y ds ss ex Q E r gs => h2 A s v y ds ss ex Q E r (g.trans gs)⟩

/-- what the parameters hold -/
noncomputable def bindAny : List (Str × Value) → (Str → Option Value) → Str → Option Value
  | [], m => m
  | (n, v) :: r, m => bindAny r fun y => if y = n then some v else m y

theorem bindL_any {kindOf : Str → Option NameKind} : ∀ (binds : List (Str × Value)) (m m' : Str → Option Value) (x : Str), kindOf x = some .local → m x = m' x → bindL kindOf binds m x = bindAny binds m' x
  | [], _, _, _, _, h => h
  | (n, v) :: r, m, m', x, hx, h => by
    unfold bindL bindAny
    refine bindL_any r _ _ x hx ?_
    by_cases e : x = n
    · subst e; simp [hx]
    · by_cases hn : kindOf n = some .local
      · simp [hn, e, h]
      · simp [hn, e, h]
theorem bindC_any {kindOf : Str → Option NameKind} : ∀ (binds : List (Str × Value)) (m m' : Str → Option Value) (x : Str), kindOf x = some .cell → m x = m' x → bindC kindOf binds m x = bindAny binds m' x
  | [], _, _, _, _, h => h
  | (n, v) :: r, m, m', x, hx, h => by
    unfold bindC bindAny
    refine bindC_any r _ _ x hx ?_
    by_cases e : x = n
    · subst e
      have : ¬ kindOf x = some .local := by rw [hx]; intro z; cases z
      simp [this]
    · by_cases hn : kindOf n = some .local
      · simp [hn, e, h]
      · simp [hn, e, h]

set_option tactic.hygienic true in
theorem cellsFrom_has : ∀ (names : List (Str × NameKind)) (n : Nat) (acc : List (Str × Addr)) (x : Str), (x, NameKind.cell) ∈ names ∨ (acc.lookup x).isSome = true → ((cellsFrom n names acc).lookup x).isSome = true
  | [], n, acc, x, h => by rcases h with h | h; cases h; exact h
  | (y, k) :: r, n, acc, x, h => by
    unfold cellsFrom
    split
    · rename_i hk
      refine cellsFrom_has r _ _ x ?_
      by_cases e : x = y
      · subst e; exact .inr (by simp [])
      · have e' : (x == y) = false := beq_eq_false_iff_ne.mpr e
        rcases h with h | h
        · rcases List.mem_cons.mp h with h | h
          · cases h; exact absurd rfl e
          · exact .inl h
        · exact .inr (by rw [List.lookup_cons, e']; exact h)
    · rename_i hk
      refine cellsFrom_has r _ _ x ?_
      rcases h with h | h
      · rcases List.mem_cons.mp h with h | h
        · cases h; exact absurd rfl hk
        · exact .inl h
      · exact .inr h

/-- the names that the parameters give read what the evaluator binds -/
noncomputable def PInv (h : Heap) (ex : List Addr) (ρ : Ro) (m : Str → Option Value) : Prop := ∀ x : String, ρ x = .no ∨ ∃ d u, ρ x = .val d ∧ m (Str.ofString x) = some u ∧ Rep h ex u d
theorem PInv.set {h : Heap} {ex : List Addr} {ρ : Ro} {m : Str → Option Value} (i : PInv h ex ρ m) (p : String) {u : Value} {d : PyData} (r : Rep h ex u d) : PInv h ex (upd ρ p (.val d)) (fun y => if y = Str.ofString p then some u else m y) := fun x => by
  by_cases e : x = p
  · subst e; exact .inr ⟨d, u, by simp [upd], by simp, r⟩
  · have e' : Str.ofString x ≠ Str.ofString p := fun z => e (ofString_inj z)
    rcases i x with k | ⟨d', u', k1, k2, k3⟩
    · exact .inl (by simp [upd, e, k])
    · exact .inr ⟨d', u', by simp [upd, e, k1], by simp [e', k2], k3⟩

theorem bindP_inv {h : Heap} {ex : List Addr} : ∀ {ps : List String} {va : Option String} {ds : List PyData} {vs : List Value} {ρ ρ' : Ro} {m : Str → Option Value} {t : Value}, bindP ps va ds ρ = some ρ' → RepAll h ex vs ds → PInv h ex ρ m →
    (∀ w, va = some w → Rep h ex t (.tuple (ds.drop ps.length))) →
    PInv h ex ρ' (bindAny ((ps.map Str.ofString).zip vs ++ (match va with | none => [] | some w => [(Str.ofString w, t)])) m) ∧ ps.length ≤ vs.length ∧ (va = none → vs.length ≤ ps.length)
  | [], none, ds, vs, ρ, ρ', m, t, hb, r, i, ht => by
    cases ds with
    | nil => cases r; simp [bindP_nil] at hb; subst hb; exact ⟨i, Nat.le_refl _, fun _ => Nat.le_refl _⟩
    | cons d ds => exact nos hb
  | [], some w, ds, vs, ρ, ρ', m, t, hb, r, i, ht => by
    have hb' : ρ' = upd ρ w (.val (.tuple ds)) := by
      cases ds <;> (simp [bindP_va] at hb; exact (by first | exact hb.2.symm | exact hb.symm))
    subst hb'
    refine ⟨?_, Nat.zero_le _, fun z => by cases z⟩
    exact i.set w (ht w rfl)
  | p :: ps, va, ds, vs, ρ, ρ', m, t, hb, r, i, ht => by
    cases ds with
    | nil => exact nos hb
    | cons d ds =>
      cases r with
      | cons r1 rs =>
        simp only [bindP_cons] at hb
        refine e0_3 (bindP_inv hb rs (i.set p r1) (fun w hw => ht w hw)) fun q1 q2 q3 => ?_
        exact ⟨q1, by simpa using q2, fun z => by simpa using q3 z⟩

theorem bindP_len : ∀ {ps : List String} {w : String} {ds : List PyData} {ρ ρ' : Ro}, bindP ps (some w) ds ρ = some ρ' → ds.length < 1000 + ps.length
  | [], w, ds, ρ, ρ', h => by
    cases ds with
    | nil => simp
    | cons d ds =>
      simp only [bindP_va] at h
      split at h
      · assumption
      · exact nos h
  | p :: ps, w, ds, ρ, ρ', h => by
    cases ds with
    | nil => exact nos h
    | cons d ds =>
      simp only [bindP_cons] at h
      have := bindP_len h
      simp only [List.length_cons]; lia

/-- a def of the text as it lies in the heap -/
structure DefAt (W : Wh) (H : Heap) (f : String) (fx : FX) (a : Addr) (o : Obj) (fd : FuncData) (body : List Stmt) : Prop where
  name : W.mg (Str.ofString f) = some (.ref a)
  obj : H.get? a = some o
  data : o.data = .func fd
  body_ : fd.body = .stmts body
  closure : fd.closure = []
  code : H.CodeRec fd.code fd.qualname
  scope : scopeB fd.scope = true
  params : paramB fd.scope fx fd.params = true
  text : chSs fd.scope fx.body body = true
  g : fd.globals = W.G
  b : fd.builtins = W.B
  defaults : fd.defaults = .none

section
variable {prog : Program} {w : World} {W : Wh} {H : Heap} {C : String → List PyData → Option PyData} {K : PyData → PyData → PyData → Option PyData} {n : Nat}

set_option tactic.hygienic true in
theorem run_gen {fx : FX} {a : Addr} {o : Obj} {fd : FuncData} {body : List Stmt} {A : Around} {s : Shared} {vs : List Value} {ds : List PyData} {d : PyData} {ρ : Ro} {ex : List Addr} {Q E : Value → Shared → Prop}
    (ho : s.heap.get? a = some o) (hd : o.data = .func fd) (hb : fd.body = .stmts body) (hcl : fd.closure = []) (hcd : s.heap.CodeRec fd.code fd.qualname) (hsc : scopeB fd.scope = true) (hpar : paramB fd.scope fx fd.params = true)
    (hg : fd.globals = W.G) (hbl : fd.builtins = W.B) (hdf : fd.defaults = .none) (hlim : s.heap.NoLimit)
    (hS : ∀ (A : Around) (env : Env) (s' : Shared) (Q : Flow → Shared → Prop) (E : Value → Shared → Prop), CtxS W s.heap n A env ex [] ρ s' → env.scope = fd.scope → (∀ h' tk v, Grow s.heap h' → Rep h' ex v d → Q (.ret v) { s' with heap := h', toks := tk }) → wpAny (model prog w) A (execs body env) Q E s')
    (rm : Room A (n + 1)) (hpl : fx.ps.length < 1000) (old : Old s ex) (r : RepAll s.heap ex vs ds) (hbind : bindP fx.ps fx.va ds (fun _ => .no) = some ρ) (hQ : Post s ex d Q) :
    wpAny (model prog w) A (call (.ref a) vs) Q E s := by
  unfold scopeB at hsc
  simp only [Bool.and_eq_true, beq_iff_eq, Bool.not_eq_true'] at hsc
  refine l4 (hsc) fun hk hgen hco hfree => ?_
  unfold paramB at hpar
  simp only [Bool.and_eq_true, beq_iff_eq, decide_eq_true_eq, List.isEmpty_iff, Option.isNone_iff_eq_none] at hpar
  refine l9 (hpar) fun p1 p2 p3 p4 p5 p6 p7 p8 p9 => ?_
  -- from the binds on
  have main : ∀ (binds : List (Str × Value)) (h1 : Heap) (tk1 : Nat), Grow s.heap h1 → PInv h1 ex ρ (bindAny binds fun _ => none) → (∀ x ∈ binds, fd.scope.names.lookup x.1 = some .local ∨ fd.scope.names.lookup x.1 = some .cell) →
      wpAny (model prog w) A.in1 (newFunctionEnv fd.scope fd.globals fd.closure binds (fd.qualname ++ ".<locals>.") (some a) fd.code none fd.builtins)
        (fun env s₂ => s₂.heap.NoLimit ∧ codeAny (model prog w) A (.func body env) (fun r s' => match r with | .ok (.ret v) => Q v s' | .ok _ => False | .error e => E e s') s₂)
        (fun e s' => E e s') { s with heap := h1, toks := tk1 } := by
    intro binds h1 tk1 g1 inv hkb
    rw [hcl]
    refine wpAny_newFunctionEnv_cells hk (fun x hx => (hkb x hx).imp id fun z => ⟨z, cellsFrom_has _ _ _ _ (.inl (mem_of_lookup' z))⟩) fun env he s' x => ?_
    refine e2_2 (x.done) fun h2 tk2 e2 g2 => ?_
    have g2' : Grow h1 h2 := g2
    have hL : env.locals = h1.objs.size := by rw [he]; rfl
    have hcells : env.cells = cellsFrom (h1.objs.size + 1) fd.scope.names [] := by rw [he]; rfl
    have hscope : env.scope = fd.scope := by rw [he]; rfl
    have x' := x
    subst e2
    refine ⟨(hlim.keeps g1).keeps g2', codeAny_func ?_⟩
    have G := g1.trans g2'
    have none1 : ∀ c, h1.objs.size ≤ c → s.heap.get? c = none := fun c hc => by
      cases e : s.heap.get? c with
      | none => rfl
      | some oo => exact absurd (Heap.lt_size (g1 c oo e)) (Nat.not_lt.mpr hc)
    have st : StS W s.heap env ex [] ρ h2 := {
      grow := G
      names := by
        refine ⟨bindAny binds fun _ => none, ⟨⟨_, x.toInCall.ns, fun y hy => bindL_any _ _ _ y hy rfl⟩, fun y hy => ?_, fun y hy => ?_⟩, fun p q ds' es hne e1 => ?_⟩
        · have : ((env.cells).lookup y).isSome = true := by
            rw [hcells]
            refine cellsFrom_has _ _ _ _ (.inl (mem_of_lookup' ?_))
            rw [← hscope]; exact hy
          refine e1_1 (Option.isSome_iff_exists.mp this) fun c hc => ?_
          refine ⟨c, hc, ?_⟩
          have := x.cell y c hc
          rw [bindC_any (kindOf := env.kindOf) binds _ (fun _ => none) y hy rfl] at this
          exact this
        · rcases inv y with k | ⟨d', u', k1, k2, k3⟩
          · rw [k]; trivial
          · rw [k1]; exact ⟨u', k2, k3.grow g2'⟩
        · rcases inv p with k | ⟨d', u', k1, k2, k3⟩
          · rw [k] at e1; cases e1
          · rw [k1] at e1; cases e1
      low := none1 _ (by rw [hL]; exact Nat.le_refl _)
      cells := fun y c hc => ⟨none1 _ (Nat.le_of_lt (hL ▸ x.above y c (mem_of_lookup' hc))), _, x.cell y c hc⟩
      apart := fun y z c hy hz => name_of_addr x.apart (mem_of_lookup' hy) (mem_of_lookup' hz)
      mine := fun a ha => (nomatch ha) }
    have cx : CtxS W s.heap n (A.deeper env) env ex [] ρ { s with heap := h2, toks := tk2 } := {
      room := ⟨rm.handled, by have := rm.depth; show A.depth + 1 + n < 900; lia, by have := rm.units; show A.units + 3 + 8 * n + 128 < cLine; lia⟩
      eo := ⟨hscope ▸ hk, by rw [he]; exact hg, by rw [he]; exact hbl⟩
      st := st
      exH := old }
    exact hS (A.deeper env) env _ _ _ cx hscope fun h3 tk3 v g3 f => hQ v h3 tk3 g3 f
  have seenK : ∀ p ∈ fx.ps ++ fx.va.toList, fd.scope.names.lookup (Str.ofString p) = some .local ∨ fd.scope.names.lookup (Str.ofString p) = some .cell := fun p hp => by
    exact sees_of (List.all_eq_true.mp p9 p hp)
  refine wpAny_call (codeAny_call_function (by have := rm.depth; show A.depth < 1000; lia) ho hd hco hgen hb hcd ?_)
  have zipKeys : ∀ x ∈ (fx.ps.map Str.ofString).zip vs, ∃ p ∈ fx.ps, x.1 = Str.ofString p := fun x hx => by
    have := (List.of_mem_zip (a := x.1) (b := x.2) hx).1
    refine e1_2 (List.mem_map.mp this) fun p hp e => ?_
    exact ⟨p, hp, e.symm⟩
  cases hva : fx.va with
  | none =>
    obtain ⟨q1, q2, q3⟩ := bindP_inv (t := .none) (m := fun _ => none) hbind r (fun _ => .inl rfl) (fun w hw => by exact nsm hva hw)
    have hvar : fd.params.vararg = none := by rw [hva] at p7; cases e : fd.params.vararg with | none => rfl | some z => rw [e] at p7; cases p7
    refine bind_ok p1 p2 p4 hdf (by rw [p6]; exact p8) (by rw [p6, List.length_map]; exact q2) (fun _ => by rw [p6, List.length_map]; exact q3 hva) ?_
    rw [hvar, p6]
    rw [hva] at q1
    simp only [List.append_nil] at q1
    exact main _ s.heap s.toks (Grow.refl _) q1 fun x hx => by
      refine e1_2 (zipKeys x hx) fun p hp e => ?_
      rw [e]; exact seenK p (List.mem_append.mpr (.inl hp))
  | some wv =>
    have hvar : ∃ z, fd.params.vararg = some z ∧ z.arg = Str.ofString wv := by
      rw [hva] at p7
      cases e : fd.params.vararg with
      | none => rw [e] at p7; cases p7
      | some z => rw [e] at p7; exact ⟨z, rfl, by simpa using p7⟩
    refine e1_2 (hvar) fun z hz hza => ?_
    have hps : fx.ps.length < 1000 := by
      have := List.length_map (as := fx.ps) Str.ofString
      exact hpl
    have hlen : vs.length ≤ sizeLine := by
      rw [hva] at hbind
      have := bindP_len hbind
      rw [r.length, sizeLine_eq]; lia
    have gp := Grow.push s.heap { cls := .type "tuple", data := .seq (vs.drop fx.ps.length).toArray }
    have rt : Rep (s.heap.push { cls := .type "tuple", data := .seq (vs.drop fx.ps.length).toArray }) ex (.ref s.heap.objs.size) (.tuple (ds.drop fx.ps.length)) :=
      .tuple ⟨_, Heap.get?_push_size _ rfl, rfl, _, rfl⟩ (old.fresh (Nat.le_refl _)) (by rw [List.length_drop]; have := r.length; lia) ((r.drop _).grow gp)
    obtain ⟨q1, q2, q3⟩ := bindP_inv (t := .ref s.heap.objs.size) (m := fun _ => none) hbind (r.grow gp) (fun _ => .inl rfl) (fun w hw => rt)
    refine bind_ok p1 p2 p4 hdf (by rw [p6]; exact p8) (by rw [p6, List.length_map]; exact q2) (fun e => by rw [hz] at e; cases e) ?_
    rw [hz, p6]
    rw [hva] at q1
    simp only [List.length_map]
    refine wpAny_newObj_type ?_ (by show (vs.drop fx.ps.length).toArray.size ≤ sizeLine; rw [List.size_toArray, List.length_drop]; lia)
    rw [hza]
    refine main _ _ s.toks gp q1 fun x hx => ?_
    rcases List.mem_append.mp hx with hx | hx
    · refine e1_2 (zipKeys x hx) fun p hp e => ?_
      rw [e]; exact seenK p (List.mem_append.mpr (.inl hp))
    · simp at hx; subst hx
      exact seenK wv (List.mem_append.mpr (.inr (by rw [hva]; simp)))

theorem run_def {fx : FX} {a : Addr} {o : Obj} {fd : FuncData} {body : List Stmt} {A : Around} {s : Shared} {vs : List Value} {ds : List PyData} {d : PyData} {ρ ρ' : Ro} {ex : List Addr} {Q E : Value → Shared → Prop}
    (ho : s.heap.get? a = some o) (hd : o.data = .func fd) (hb : fd.body = .stmts body) (hcl : fd.closure = []) (hcd : s.heap.CodeRec fd.code fd.qualname) (hsc : scopeB fd.scope = true) (hpar : paramB fd.scope fx fd.params = true)
    (htx : chSs fd.scope fx.body body = true) (hg : fd.globals = W.G) (hbl : fd.builtins = W.B) (hdf : fd.defaults = .none) (hlim : s.heap.NoLimit)
    (hS : SPs prog w W s.heap C K n fx.body) (rm : Room A (n + 1)) (hpl : fx.ps.length < 1000) (old : Old s ex) (r : RepAll s.heap ex vs ds) (hbind : bindP fx.ps fx.va ds (fun _ => .no) = some ρ) (hev : exSs C K fx.body ρ = some (.ret d, ρ')) (hQ : Post s ex d Q) :
    wpAny (model prog w) A (call (.ref a) vs) Q E s := by
  refine run_gen (n := n) (d := d) ho hd hb hcl hcd hsc hpar hg hbl hdf hlim (fun A env s' Q E cx hscope hq => ?_) rm hpl old r hbind hQ
  refine hS A env ex [] ρ ρ' _ body (.ret d) _ _ cx (hscope ▸ htx) hev fun h3 tk3 own' fl st3 c3 n3 f => ?_
  cases fl with
  | ret v => exact hq h3 tk3 v st3.grow (f.less fun a ha => List.mem_append.mpr (.inr ha))
  | _ => exact f.elim

set_option tactic.hygienic true in
/-- the defs of the table, each of which lies in the heap, run as the evaluator says -/
theorem calls_ok {T : String → Option FX} (hD : ∀ f fx, T f = some fx → fx.ps.length < 1000 ∧ ∃ a o fd body, DefAt W H f fx a o fd body) (hW : WdOk prog w W H) (hK : ∀ n, CmpOk prog w W H K (n + 4)) (hM : ∀ n, MapOk prog w W H (n + 4))
    (hF : ∃ a o fd, W.mg (Str.ofString "fspath") = some (.ref a) ∧ H.get? a = some o ∧ o.data = .func fd ∧
      ∀ (A : Around) (s : Shared) (x : Str) (t : Tok) (Q E : Value → Shared → Prop), Room A 1 → Grow H s.heap → x.length ≤ sizeLine → (∀ h' tk t', Grow s.heap h' → Q (.str x t') { s with heap := h', toks := tk }) → wpAny (model prog w) A (call (.ref a) [.str x t]) Q E s) :
    ∀ n, n ≤ 100 → CallOk prog w W H (callX T K n) (n + 4)
  | 0, _ => fun f ds d h => by simp [callX_zero] at h
  | n + 1, hn => fun f ds d h => by
    have ih := calls_ok hD hW hK hM hF n (by lia)
    simp only [callX_succ] at h
    split at h
    · rename_i hf; subst hf
      split at h
      · rename_i x
        cases h
        refine e3_4 (hF) fun a o fd h1 h2 h3 h4 => ?_
        refine ⟨a, o, fd, h1, h2, h3, fun A s vs ex Q E rm g old r hQ => ?_⟩
        refine e1_2 (repAll_one r) fun v ze27 rv => ?_; subst ze27
        cases rv with
        | str _ t hx =>
          exact h4 A s x t Q E ⟨rm.handled, by have := rm.depth; lia, by have := rm.units; lia⟩ g hx fun h' tk t' g' => hQ _ _ _ g' (.str _ _ hx)
      · exact nos h
    · split at h
      · exact nos h
      · rename_i fx hfx
        first | refine opND h fun ρ hb h => ?_ | refine opNL h fun ρ hb h => ?_ | refine opNR h fun ρ hb h => ?_
        · skip
          split at h
          · rename_i d' ρ' hev
            cases h
            obtain ⟨hpl, a, o, fd, body, D⟩ := hD f fx hfx
            refine ⟨a, o, fd, D.name, D.obj, D.data, fun A s vs ex Q E rm g old r hQ => ?_⟩
            have hW' := hW.up g
            have ih' := ih.up g
            exact run_def (n := n + 4) (g _ _ D.obj) D.data D.body_ D.closure (D.code.keeps g) D.scope D.params D.text D.g D.b D.defaults hW'.lim
              (Ss_all hW' ih' ((hK n).up g) ((hM n).up g) fx.body) rm hpl old r hb hev hQ
          · exact nos h
end
end Mine
end

section
open PySem PySem.W PyProof.Rows
open Sem (wp)
set_option maxRecDepth 100000

namespace Mine
set_option tactic.hygienic false

theorem meta_str : typeOf (.type "str") = pure (.type "type") := by kernel_rfl
theorem sub_ss : isSubtype (.type "str") (.type "str") = pure true := by rw [isSubtype_type]; kernel_rfl
theorem kind_issn : builtinKind "issubclass.nested" = none := by decide +kernel
theorem plain_issn : plainId "issubclass.nested" = true := by decide +kernel
theorem args_issn (a b c : Value) : argsOk "issubclass.nested" ⟨[a, b, c], []⟩ := by unfold argsOk; kernel_rfl

section
variable {prog : Program} {w : World} {A : Around} {E : Value → Shared → Prop} {s : Shared}

theorem sc_self {dep : Int} {tk : Tok} {Q : Fin → Shared → Prop} (hq : Q (.done (.ret (.bool true))) s) :
    wpAny (model prog w) A (Builtin.«issubclass.nested» ⟨[.type "str", .type "str", .int dep tk], []⟩) Q E s := by
  have hm := meta_str
  have hm' : (Value.type "type" == Value.type "type") = true := by decide
  have hself := sub_ss
  repeat (any_goals (first | assumption | (rw [if_pos hm']) | (rw [hself]) | wp_step))

theorem sc_meets (dep : Int) (tk : Tok) : Meets (Builtin.«issubclass.nested» ⟨[.type "str", .type "str", .int dep tk], []⟩) (fun _ R s => R (.ok (.ret (.bool true))) s) :=
  fun _ _ _ _ _ hs => sc_self hs

theorem sc_items {dep : Int} {rest : List Value} {Q : Option Fin × Unit → Shared → Prop} (h : ∀ tk, Q (some (.done (.ret (.bool true))), ()) { s with toks := tk }) :
    wpAny (model prog w) A (forIn (.type "str" :: rest) ((none : Option Fin), ()) fun c _ => do
      if ← truthy (← call (.builtin "issubclass.nested") [.type "str", c, rawInt (dep + 1)]) then
        let r ← ret (.bool true)
        pure (ForInStep.done (some r, ()))
      else pure (ForInStep.yield (none, ()))) Q E s := by
  rw [List.forIn_cons]
  refine wpAny_bind (wpAny_bind (call_function_meets kind_issn plain_issn F.entry_issubclass_nested (args_issn _ _ _) (sc_meets _ _) ?_))
  show wpAny _ _ (truthy (.bool true) >>= _) _ _ _
  refine wpAny_bind (m := truthy (.bool true)) (wpAny_pure ?_)
  exact wpAny_bind (wpAny_pure (wpAny_pure (wpAny_pure (h s.toks))))

theorem sc_tuple {tp : Addr} {cs rest : List Value} {tk : Tok} {Q : Fin → Shared → Prop} (htp : s.heap.get? tp = some { cls := .type "tuple", data := .seq cs.toArray }) (hcs : cs = .type "str" :: rest)
    (hq : ∀ tk', Q (.done (.ret (.bool true))) { s with toks := tk' }) : wpAny (model prog w) A (Builtin.«issubclass.nested» ⟨[.type "str", .ref tp, .int 0 tk], []⟩) Q E s := by
  obtain ⟨h, g, d, t, os⟩ := s
  have hT2 : (⟨h, g, d, t, os⟩ : Shared).TypeIs (.ref tp) "tuple" := ⟨_, htp, rfl⟩
  have f1 := F.isi_sub_tuple
  repeat (any_goals (first | assumption | wp_step))
  refine wpAny_arrayLoop ?_
  simp only [Option.getD_some, List.toList_toArray]
  rw [hcs]
  refine sc_items (dep := 0) fun tk' => ?_
  repeat (any_goals (first | assumption | wp_step))
  exact hq tk'

theorem call_sc {tp : Addr} {rest : List Value} {Q : Value → Shared → Prop} (htp : s.heap.get? tp = some { cls := .type "tuple", data := .seq (.type "str" :: rest).toArray }) (hq : ∀ tk', Q (.bool true) { s with toks := tk' }) :
    wpAny (model prog w) A (call (.builtin "issubclass") [.type "str", .ref tp]) Q E s :=
  call_issubclass (S := fun _ R s => s.heap.get? tp = some { cls := .type "tuple", data := .seq (.type "str" :: rest).toArray } ∧ ∀ tk', R (.ok (.ret (.bool true))) { s with toks := tk' })
    (fun _ _ _ _ _ hs => issubclass_outer (sc_tuple hs.1 rfl hs.2)) ⟨htp, hq⟩
end

/-- the head of fspath's text -/
noncomputable def shA (sc : Scope) (st : Stmt) : Bool := p_Asg st fun z1 z2 z3 => p_Name z1 fun k1 z4 => p_CallN z2 fun ty z5 z6 z7 => g1 z6 fun z8 => p_Name z8 fun p1 z9 => (k1 == Str.ofString "kind" && ty == Str.ofString "type" && globB sc ty && p1 == Str.ofString "path")
theorem inv_shA {sc : Scope} {P : Stmt → Prop} {st : Stmt} (g : ∀ k1 z4 ty z5 p1 z9 z7 z3, (k1 == Str.ofString "kind" && ty == Str.ofString "type" && globB sc ty && p1 == Str.ofString "path") = true → P (.Assign [(.Name k1 z4)] (.Call (.Name ty z5) [(.Name p1 z9)] [] z7) z3)) (h : shA sc st = true) : P st := by
  refine p_Asg_el (P := fun st => P st) (fun z1 z2 z3 h1 => ?_) h
  refine p_Name_el (P := fun z1 => P (.Assign [z1] z2 z3)) (fun k1 z4 h2 => ?_) h1
  refine p_CallN_el (P := fun z2 => P (.Assign [(.Name k1 z4)] z2 z3)) (fun ty z5 z6 z7 h3 => ?_) h2
  refine g1_el (P := fun z6 => P (.Assign [(.Name k1 z4)] (.Call (.Name ty z5) z6 [] z7) z3)) (fun z8 h4 => ?_) h3
  refine p_Name_el (P := fun z8 => P (.Assign [(.Name k1 z4)] (.Call (.Name ty z5) [z8] [] z7) z3)) (fun p1 z9 h5 => ?_) h4
  exact g k1 z4 ty z5 p1 z9 z7 z3 h5
noncomputable def shN (sc : Scope) (e : Expr) : Bool := p_Tup2 e fun z1 z2 z3 z4 => p_Name z1 fun n1 z5 => p_Name z2 fun n2 z6 => (n1 == Str.ofString "str" && globB sc n1 && n2 == Str.ofString "bytes" && globB sc n2)
theorem inv_shN {sc : Scope} {P : Expr → Prop} {e : Expr} (g : ∀ n1 z5 n2 z6 z3 z4, (n1 == Str.ofString "str" && globB sc n1 && n2 == Str.ofString "bytes" && globB sc n2) = true → P (.Tuple [(.Name n1 z5), (.Name n2 z6)] z3 z4)) (h : shN sc e = true) : P e := by
  refine p_Tup2_el (P := fun e => P e) (fun z1 z2 z3 z4 h1 => ?_) h
  refine p_Name_el (P := fun z1 => P (.Tuple [z1, z2] z3 z4)) (fun n1 z5 h2 => ?_) h1
  refine p_Name_el (P := fun z2 => P (.Tuple [(.Name n1 z5), z2] z3 z4)) (fun n2 z6 h3 => ?_) h2
  exact g n1 z5 n2 z6 z3 z4 h3
noncomputable def shC (sc : Scope) (e : Expr) : Bool := p_CallN e fun isc z1 z2 z3 => g2 z2 fun z4 tp => p_Name z4 fun k2 z5 => (isc == Str.ofString "issubclass" && globB sc isc && k2 == Str.ofString "kind" && shN sc tp)
theorem inv_shC {sc : Scope} {P : Expr → Prop} {e : Expr} (g : ∀ isc z1 k2 z5 tp z3, (isc == Str.ofString "issubclass" && globB sc isc && k2 == Str.ofString "kind" && shN sc tp) = true → P (.Call (.Name isc z1) [(.Name k2 z5), tp] [] z3)) (h : shC sc e = true) : P e := by
  refine p_CallN_el (P := fun e => P e) (fun isc z1 z2 z3 h1 => ?_) h
  refine g2_el (P := fun z2 => P (.Call (.Name isc z1) z2 [] z3)) (fun z4 tp h2 => ?_) h1
  refine p_Name_el (P := fun z4 => P (.Call (.Name isc z1) [z4, tp] [] z3)) (fun k2 z5 h3 => ?_) h2
  exact g isc z1 k2 z5 tp z3 h3
noncomputable def shR (sc : Scope) (st : Stmt) : Bool := p_Ret st fun z1 z2 => p_Name z1 fun p2 z3 => (p2 == Str.ofString "path")
theorem inv_shR {sc : Scope} {P : Stmt → Prop} {st : Stmt} (g : ∀ p2 z3 z2, (p2 == Str.ofString "path") = true → P (.Return (some (.Name p2 z3)) z2)) (h : shR sc st = true) : P st := by
  refine p_Ret_el (P := fun st => P st) (fun z1 z2 h1 => ?_) h
  refine p_Name_el (P := fun z1 => P (.Return (some z1) z2)) (fun p2 z3 h2 => ?_) h1
  exact g p2 z3 z2 h2
noncomputable def shB (sc : Scope) (st : Stmt) : Bool := p_IfS st fun t z1 els z2 => g1 z1 fun r => (shC sc t && shR sc r)
theorem inv_shB {sc : Scope} {P : Stmt → Prop} {st : Stmt} (g : ∀ t r els z2, (shC sc t && shR sc r) = true → P (.If t [r] els z2)) (h : shB sc st = true) : P st := by
  refine p_IfS_el (P := fun st => P st) (fun t z1 els z2 h1 => ?_) h
  refine g1_el (P := fun z1 => P (.If t z1 els z2)) (fun r h2 => ?_) h1
  exact g t r els z2 h2
noncomputable def fspShape (sc : Scope) (ts : List Stmt) : Bool := gC ts fun a r => gC r fun b _ => shA sc a && shB sc b && seesB sc (Str.ofString "path") && seesB sc (Str.ofString "kind")

noncomputable def fspFX : FX := ⟨["path"], none, []⟩
noncomputable def fspB (K : Frag) : Bool :=
  gS (nsIn K mainGlobals (Str.ofString "fspath")) fun w => gS w fun v => vRef v fun a => gS (K.lookup a) fun o => dFunc o.data fun fd => bSt fd.body fun body => fspShape fd.scope body && plainFd K fd fspFX

section
variable {prog : Program} {w : World} {W : Wh} {H : Heap}

theorem fsp_body {A : Around} {env : Env} {s' : Shared} {H' : Heap} {x : Str} {ts : List Stmt} {Q : Flow → Shared → Prop} {E : Value → Shared → Prop} {n : Nat} {ρ : Ro} (hρ : ρ = upd (fun _ => .no) "path" (.val (.str x)))
    (W' : WdOk prog w W H') (hty : W.mg (Str.ofString "type") = none ∧ W.mb (Str.ofString "type") = some (.type "type")) (hsc : W.mg (Str.ofString "issubclass") = none ∧ W.mb (Str.ofString "issubclass") = some (.builtin "issubclass"))
    (c : CtxS W H' n A env [] [] ρ s') (hs : fspShape env.scope ts = true) (hQ : ∀ h' tk v, Grow H' h' → Rep h' [] v (.str x) → Q (.ret v) { s' with heap := h', toks := tk }) : wpAny (model prog w) A (execs ts env) Q E s' := by
  unfold fspShape at hs
  refine gC_el (P := fun ts => wpAny (model prog w) A (execs (ts) env) Q E s') (fun ta tr hs1 => ?_) hs
  refine gC_el (P := fun tr => wpAny (model prog w) A (execs (ta :: tr) env) Q E s') (fun tb te hs2 => ?_) hs1
  refine and4 (fun sa sb e13 e14 => ?_) hs2
  refine inv_shA (P := fun ta => wpAny (model prog w) A (execs (ta :: tb :: te) env) Q E s') (fun a0 a1 a2 a3 a4 a5 a6 a7 sa => ?_) sa
  refine inv_shB (P := fun tb => wpAny (model prog w) A (execs (_ :: tb :: te) env) Q E s') (fun b0 b1 b2 b3 sb => ?_) sb
  refine and2 (fun sc1 sr => ?_) sb
  refine inv_shC (P := fun b0 => wpAny (model prog w) A (execs (_ :: .If b0 _ _ _ :: te) env) Q E s') (fun c0 c1 c2 c3 c4 c5 sc1 => ?_) sc1
  refine inv_shR (P := fun b1 => wpAny (model prog w) A (execs (_ :: .If _ [b1] _ _ :: te) env) Q E s') (fun d0 d1 d2 e12 => ?_) sr
  refine and4 (fun e5 e6 e7 sn => ?_) sc1
  refine inv_shN (P := fun c4 => wpAny (model prog w) A (execs (_ :: .If (.Call _ [_, c4] _ _) _ _ _ :: te) env) Q E s') (fun f0 f1 f2 f3 f4 f5 sn => ?_) sn
  refine and4 (fun e1 e2 e3 e4 => ?_) sa
  refine and4 (fun e8 e9 e10 e11 => ?_) sn
  · skip
    have e1 := str_eq e1; subst e1
    have e2 := str_eq e2; subst e2
    have e4 := str_eq e4; subst e4
    have e5 := str_eq e5; subst e5
    have e7 := str_eq e7; subst e7
    have e8 := str_eq e8; subst e8
    have e10 := str_eq e10; subst e10
    have e12 := str_eq e12; subst e12
    refine e1_1 (c.st.names) fun σ N => ?_
    have V := N.1.2.2 "path" (seen_of e13)
    rw [hρ] at V
    simp only [upd, if_true] at V
    refine e1_2 (V) fun u hu ru => ?_
    cases ru with
    | str _ t0 hx =>
      refine wpAny_execs_cons (wpAny_Assign_Name (Call_ (glob_bi (W' := W') (c.x W H' n) e3 hty (by decide +kernel) ?_)))
      refine Pv.callWith_type1 (args_cons (wpAny_Name (N.1.get c.eo.kind (seen_of e13) hu (args_nil ?_)) (by decide +kernel)))
      refine call_type_of (Tx := "str") rfl (by decide) ?_
      have hkp : ("kind" : String) ≠ "path" := by decide
      refine store_ok c.eo c.st (seen_of e14) (a := .no) (v := .type "str") trivial N (fun ds e => by cases e) fun h1 tk1 S1 c1 N1 => ?_
      have cx1 : CtxS W H' n A env [] [] (upd ρ "kind" .no) { s' with heap := h1, toks := tk1 } := ⟨c.room, c.eo, S1, c.exH⟩
      refine wpAny_execs_cons (wpAny_If (wpAny_isTrue_value (Call_ (glob_bi (W' := W') (cx1.x W H' n) e6 hsc (by decide +kernel) ?_))))
      refine PyProof.Rows.callWith_builtin1 (args_cons (wpAny_Name (N1.1.get c.eo.kind (seen_of e14) (v := .type "str") (by simp) ?_) (by decide +kernel)))
      have hstr := W'.bis "str" (by decide +kernel)
      have hb : biV "str" = .type "str" := by decide +kernel
      rw [hb] at hstr
      refine args_cons (Tuple_ (args_cons (glob_bi (W' := W') (cx1.x W H' n) e9 hstr (by decide +kernel) (args_cons (glob_bi (W' := W') (cx1.x W H' n) e11 W'.bytes (by decide +kernel) (args_nil ?_))))))
      refine wpAny_newObj_type (args_nil ?_) (by show (2 : Nat) ≤ sizeLine; rw [sizeLine_eq]; lia)
      have gp := Grow.push h1 { cls := .type "tuple", data := .seq [Value.type "str", .type "bytes"].toArray }
      refine call_sc (rest := [.type "bytes"]) (Heap.get?_push_size _ rfl) fun tk' => ?_
      refine wpAny_truthy_bool ?_
      simp only [if_true]
      refine wpAny_execs_cons (wpAny_Return_some ?_)
      have N2 := N1.1.grow gp
      have hne : Str.ofString "path" ≠ Str.ofString "kind" := fun z => hkp (ofString_inj z).symm
      refine wpAny_Name (N2.get (s := { s' with heap := _, toks := tk' }) c.eo.kind (seen_of e13) (v := .str x t0) (by rw [if_neg hne]; exact hu) ?_) (by decide +kernel)
      exact hQ _ _ _ (S1.grow.trans gp) (.str _ _ hx)

set_option tactic.hygienic true in
theorem fsp_ok {K : Frag} (X : K.In H) (W' : WdOk prog w W H) (hG : W.G = mainGlobals) (hB : W.B = builtinsNs) (hty : W.mg (Str.ofString "type") = none ∧ W.mb (Str.ofString "type") = some (.type "type"))
    (hsc : W.mg (Str.ofString "issubclass") = none ∧ W.mb (Str.ofString "issubclass") = some (.builtin "issubclass")) (h : fspB K = true) :
    ∃ a o fd, W.mg (Str.ofString "fspath") = some (.ref a) ∧ H.get? a = some o ∧ o.data = .func fd ∧
      ∀ (A : Around) (s : Shared) (x : Str) (t : Tok) (Q E : Value → Shared → Prop), Room A 1 → Grow H s.heap → x.length ≤ sizeLine → (∀ h' tk t', Grow s.heap h' → Q (.str x t') { s with heap := h', toks := tk }) → wpAny (model prog w) A (call (.ref a) [.str x t]) Q E s := by
  have G : H.Ns mainGlobals W.mg := hG ▸ W'.g
  refine e1_2 (gS_ex h) fun w0 hm k1 => ?_
  refine e1_2 (gS_ex k1) fun v0 e1 k2 => ?_
  refine e1_2 (vRef_el k2) fun a e2 k3 => ?_
  refine e1_2 (gS_ex k3) fun o ho k4 => ?_
  refine e1_2 (dFunc_el k4) fun fd hd k5 => ?_
  refine e1_2 (bSt_el k5) fun body hb k6 => ?_
  rw [e1, e2] at hm
  refine and2 (fun h1 h => ?_) k6
  refine e0_7 (plainFd_of X h) fun h2 hcode h3 h4 h5 h6 h7 => ?_
  refine ⟨a, o, fd, mg_of X G hm, X _ _ ho, hd, fun A s x t Q E rm g hx hQ => ?_⟩
  have W'' := W'.up g
  refine run_gen (W := W) (n := 0) (fx := fspFX) (ds := [.str x]) (d := .str x) (ex := []) (ρ := upd (fun _ => .no) "path" (.val (.str x))) (g _ _ (X _ _ ho)) hd hb h2 (hcode.keeps g) h3 h4 (hG.symm ▸ h5) (hB.symm ▸ h6) h7 W''.lim
    (fun A' env s' Q' E' cx hscope hq => fsp_body rfl W'' hty hsc cx (hscope ▸ h1) hq) rm (by decide) (fun a ha => (nomatch ha)) (.one (.str _ _ hx)) rfl fun v h' tk g' r => ?_
  cases r with
  | str _ t' _ => exact hQ h' tk t' g'
end
end Mine
end

section
open PySem PySem.W PyProof.Rows
set_option maxRecDepth 100000

namespace Mine
set_option tactic.hygienic false
section
variable {prog : Program} {w : World} {W : Wh} {n : Nat}

/-- a def entered with whatever its parameters hold -/
theorem run_any {a : Addr} {o : Obj} {fd : FuncData} {body : List Stmt} {names : List Str} {A : Around} {s : Shared} {vs : List Value} {ρ : Ro} {ex : List Addr} {Q E : Value → Shared → Prop}
    (ho : s.heap.get? a = some o) (hd : o.data = .func fd) (hb : fd.body = .stmts body) (hcl : fd.closure = []) (hcd : s.heap.CodeRec fd.code fd.qualname) (hsc : scopeB fd.scope = true)
    (p1 : fd.params.posonlyargs = []) (p2 : fd.params.kwonlyargs = []) (p4 : fd.params.kwarg = none) (p7 : fd.params.vararg = none) (p6 : fd.params.args.map (·.arg) = names) (p8 : names.Nodup) (hlen : names.length = vs.length)
    (hkb : ∀ x ∈ names, fd.scope.names.lookup x = some .local ∨ fd.scope.names.lookup x = some .cell)
    (hg : fd.globals = W.G) (hbl : fd.builtins = W.B) (hdf : fd.defaults = .none) (hlim : s.heap.NoLimit) (rm : ∀ env, Room (A.deeper env) n) (hdep : A.depth < 1000) (old : Old s ex)
    (hv : ∀ (h1 : Heap) (L : Addr), Grow s.heap h1 → s.heap.get? L = none → ∀ x : String, VarOk W.cc L h1 ex [] (ρ x) (bindAny (names.zip vs) (fun _ => none) (Str.ofString x))) (hno : ∀ x ds, ρ x ≠ .own ds)
    (hS : ∀ (A : Around) (env : Env) (h2 : Heap) (tk2 : Nat) (E' : Value → Shared → Prop), CtxS W s.heap n A env ex [] ρ { s with heap := h2, toks := tk2 } → env.scope = fd.scope → s.heap.objs.size ≤ env.locals →
      Named W.cc env ex [] ρ h2 (bindAny (names.zip vs) fun _ => none) →
      wpAny (model prog w) A (execs body env) (fun f s'' => Q (match f with | .ret v => v | _ => .none) s'') E' { s with heap := h2, toks := tk2 }) :
    codeAny (model prog w) A (.call (.ref a) ⟨vs, []⟩) (fun r s' => match r with | .ok (.ret v) => Q v s' | .ok _ => False | .error e => E e s') s := by
  unfold scopeB at hsc
  simp only [Bool.and_eq_true, beq_iff_eq, Bool.not_eq_true'] at hsc
  refine l4 (hsc) fun hk hgen hco hfree => ?_
  refine codeAny_call_function hdep ho hd hco hgen hb hcd ?_
  refine bind_ok p1 p2 p4 hdf (by rw [p6]; exact p8) (by rw [p6]; omega) (fun _ => by rw [p6]; omega) ?_
  rw [p7, p6]
  show wpAny (model prog w) A.in1 (newFunctionEnv fd.scope fd.globals fd.closure (names.zip vs) (fd.qualname ++ ".<locals>.") (some a) fd.code none fd.builtins) _ _ _
  rw [hcl]
  refine wpAny_newFunctionEnv_cells hk (fun x hx => (hkb x.1 ((List.of_mem_zip (a := x.1) (b := x.2) hx).1)).imp id fun z => ⟨z, cellsFrom_has _ _ _ _ (.inl (mem_of_lookup' z))⟩) fun env he s' x => ?_
  refine e2_2 (x.done) fun h2 tk2 e2 g2 => ?_
  have hL : env.locals = s.heap.objs.size := by rw [he]; rfl
  have hcells : env.cells = cellsFrom (s.heap.objs.size + 1) fd.scope.names [] := by rw [he]; rfl
  have hscope : env.scope = fd.scope := by rw [he]; rfl
  subst e2
  refine ⟨hlim.keeps g2, codeAny_func ?_⟩
  have none1 : ∀ c, s.heap.objs.size ≤ c → s.heap.get? c = none := fun c hc => Grow.fresh hc
  have ND : Named W.cc env ex [] ρ h2 (bindAny (names.zip vs) fun _ => none) := by
    refine ⟨⟨⟨_, x.toInCall.ns, fun y hy => bindL_any _ _ _ y hy rfl⟩, fun y hy => ?_, fun y hy => ?_⟩, fun p q ds' es hne e1 => absurd e1 (hno _ _)⟩
    · have : ((env.cells).lookup y).isSome = true := by
        rw [hcells]
        refine cellsFrom_has _ _ _ _ (.inl (mem_of_lookup' ?_))
        rw [← hscope]; exact hy
      refine e1_1 (Option.isSome_iff_exists.mp this) fun c hc => ?_
      refine ⟨c, hc, ?_⟩
      have := x.cell y c hc
      rw [bindC_any (kindOf := env.kindOf) _ _ (fun _ => none) y hy rfl] at this
      exact this
    · exact hv h2 env.locals g2 (none1 _ (by rw [hL]; exact Nat.le_refl _)) y
  have st : StS W s.heap env ex [] ρ h2 := {
    grow := g2
    names := ⟨_, ND⟩
    low := none1 _ (by rw [hL]; exact Nat.le_refl _)
    cells := fun y c hc => ⟨none1 _ (Nat.le_of_lt (hL ▸ x.above y c (mem_of_lookup' hc))), _, x.cell y c hc⟩
    apart := fun y z c hy hz => name_of_addr x.apart (mem_of_lookup' hy) (mem_of_lookup' hz)
    mine := fun a ha => (nomatch ha) }
  exact hS (A.deeper env) env h2 tk2 _ ⟨rm env, ⟨hscope ▸ hk, by rw [he]; exact hg, by rw [he]; exact hbl⟩, st, old⟩ hscope (by rw [hL]; exact Nat.le_refl _) ND
end
end Mine
end

section
open PySem PySem.W PyProof.Rows

namespace Mine
set_option tactic.hygienic false

noncomputable abbrev v (s : String) : X := .var s

noncomputable def fGetSep : FX := ⟨["path"], none, [
  .ite (.isBytes (v "path")) [.dead] [.ret (.str "/")]]⟩
noncomputable def fJoin : FX := ⟨["a"], some "p", [
  .assign "a" (.call "fspath" [v "a"]),
  .assign "sep" (.call "_get_sep" [v "a"]),
  .assign "path" (v "a"),
  .try_ [.for1 "b" (v "p") [
    .assign "b" (.call "fspath" [v "b"]),
    .ite (.bop false [.meth "startswith" (v "b") [v "sep"], .not (v "path")])
      [.assign "path" (v "b")]
      [.ite (.meth "endswith" (v "path") [v "sep"])
        [.aug "path" (v "b")]
        [.aug "path" (.bin .add (v "sep") (v "b"))]]]],
  .ret (v "path")]⟩
noncomputable def fSplit : FX := ⟨["p"], none, [
  .assign "p" (.call "fspath" [v "p"]),
  .assign "sep" (.call "_get_sep" [v "p"]),
  .assign "i" (.bin .add (.meth "rfind" (v "p") [v "sep"]) (.int 1)),
  .swap ["head", "tail"] [.slc (v "p") .nil (v "i"), .slc (v "p") (v "i") .nil],
  .ite (.bop true [v "head", .cmp .ne (v "head") (.bin .mul (v "sep") (.bi "len" [v "head"]))])
    [.assign "head" (.meth "rstrip" (v "head") [v "sep"])] [],
  .ret (.tup [v "head", v "tail"])]⟩
noncomputable def fSplitroot : FX := ⟨["p"], none, [
  .assign "p" (.call "fspath" [v "p"]),
  .ite (.isBytes (v "p")) [.dead] [.assign "sep" (.str "/"), .assign "empty" (.str "")],
  .ite (.cmp .ne (.slc (v "p") .nil (.int 1)) (v "sep"))
    [.ret (.tup [v "empty", v "empty", v "p"])]
    [.ite (.bop false [.cmp .ne (.slc (v "p") (.int 1) (.int 2)) (v "sep"), .cmp .eq (.slc (v "p") (.int 2) (.int 3)) (v "sep")])
      [.ret (.tup [v "empty", v "sep", .slc (v "p") (.int 1) .nil])]
      [.ret (.tup [v "empty", .slc (v "p") .nil (.int 2), .slc (v "p") (.int 2) .nil])]]]⟩
noncomputable def fDirname : FX := ⟨["p"], none, [
  .assign "p" (.call "fspath" [v "p"]),
  .assign "sep" (.call "_get_sep" [v "p"]),
  .assign "i" (.bin .add (.meth "rfind" (v "p") [v "sep"]) (.int 1)),
  .assign "head" (.slc (v "p") .nil (v "i")),
  .ite (.bop true [v "head", .cmp .ne (v "head") (.bin .mul (v "sep") (.bi "len" [v "head"]))])
    [.assign "head" (.meth "rstrip" (v "head") [v "sep"])] [],
  .ret (v "head")]⟩
noncomputable def fNormpath : FX := ⟨["path"], none, [
  .assign "path" (.call "fspath" [v "path"]),
  .ite (.isBytes (v "path")) [.dead] [.assign "sep" (.str "/"), .assign "dot" (.str "."), .assign "dotdot" (.str "..")],
  .ite (.not (v "path")) [.ret (v "dot")] [],
  .unpack ["_", "initial_slashes", "path"] (.call "splitroot" [v "path"]),
  .assign "comps" (.meth "split" (v "path") [v "sep"]),
  .newOwn "new_comps",
  .for1 "comp" (v "comps") [
    .ite (.bop false [.not (v "comp"), .cmp .eq (v "comp") (v "dot")]) [.cont] [],
    .ite (.bop false [.cmp .ne (v "comp") (v "dotdot"), .bop true [.not (v "initial_slashes"), .not (v "new_comps")],
        .bop true [v "new_comps", .cmp .eq (.ownLast "new_comps") (v "dotdot")]])
      [.append "new_comps" (v "comp")]
      [.ite (v "new_comps") [.pop "new_comps"] []]],
  .freeze "comps" "new_comps",
  .assign "path" (.bin .add (v "initial_slashes") (.meth "join" (v "sep") [v "comps"])),
  .ret (.bop false [v "path", v "dot"])]⟩
noncomputable def fCommonpath : FX := ⟨["paths"], none, [
  .assign "paths" (.mapF (v "paths")),
  .ite (.not (v "paths")) [.dead] [],
  .ite (.isBytes (.idx (v "paths") (.int 0))) [.dead] [.assign "sep" (.str "/"), .assign "curdir" (.str ".")],
  .try_ [
    .assignC "split_paths" (.comp (.meth "split" (v "path") [v "sep"]) "path" (v "paths") .nil),
    .try_ [.setTrue "isabs" "p" (v "paths") (v "sep")],
    .assignC "split_paths" (.comp (.comp (v "c") "c" (v "s") (.bop true [v "c", .cmp .ne (v "c") (v "curdir")])) "s" (v "split_paths") .nil),
    .assign "s1" (.bi "min" [v "split_paths"]),
    .assign "s2" (.bi "max" [v "split_paths"]),
    .assign "common" (v "s1"),
    .forE "i" "c" (v "s1") [
      .ite (.cmp .ne (v "c") (.idx (v "s2") (v "i"))) [.assign "common" (.slc (v "s1") .nil (v "i")), .brk] []],
    .assign "prefix" (.ite (v "isabs") (v "sep") (.slc (v "sep") .nil (.int 0))),
    .ret (.bin .add (v "prefix") (.meth "join" (v "sep") [v "common"]))]]⟩
noncomputable def bCompare : List S := [
  .forT ["index", "direction"] (.keysOf "self") [
    .assign "l" (.idx (v "left") (v "index")),
    .assign "r" (.idx (v "right") (v "index")),
    .ite (.cmp .lt (v "l") (v "r")) [.ret (.neg (v "direction"))] [],
    .ite (.cmp .gt (v "l") (v "r")) [.ret (v "direction")] []],
  .ret (.int 0)]
noncomputable def fDrawn : FX := ⟨["number"], none, [
  .unpack ["spelled", "pieces", "names", "left"] (.tup [.str "/", .list [], .list [], .bin .mod (.bi "abs" [v "number"]) (.int 585)]),
  .whl (.cmp .gt (v "left") (.int 0)) [
    .assign "step" (.idx (.list [.str "b//", .str "a", .str "b", .str "a-", .str "..", .str ".", .str "../..",
        .bin .add (.str "a") (.bi "chr" [.bin .add (.int 48) (.bin .mod (.bin .fdiv (.bi "abs" [v "number"]) (.int 585)) (.int 256))])]) (.bin .mod (v "left") (.int 8))),
    .assign "spelled" (.call "join" [v "spelled", v "step"]),
    .for1 "piece" (.meth "split" (v "step") [.str "/"]) [
      .ite (.cmp .notin (v "piece") (.list [.str "", .str "."])) [
        .assign "pieces" (.bin .add (v "pieces") (.list [v "piece"])),
        .assign "names" (.ite (.cmp .eq (v "piece") (.str "..")) (.slc (v "names") .nil (.neg (.int 1))) (.bin .add (v "names") (.list [v "piece"])))] []],
    .assign "left" (.bin .fdiv (.bin .sub (v "left") (.int 1)) (.int 8))],
  .ret (.tup [v "spelled", v "pieces", v "names", v "number"])]⟩
noncomputable def fShared : FX := ⟨["lists"], none, [
  .assign "front" (.idx (v "lists") (.int 0)),
  .for1 "other" (v "lists") [
    .whl (.cmp .ne (.slc (v "other") .nil (.bi "len" [v "front"])) (v "front")) [
      .assign "front" (.slc (v "front") .nil (.neg (.int 1)))]],
  .ret (v "front")]⟩
noncomputable def fPath : FX := ⟨["names"], none, [.ret (.bin .add (.str "/") (.meth "join" (.str "/") [v "names"]))]⟩
noncomputable def fPlain : FX := ⟨["number", "names"], none, [
  .ret (.bi "tuple" [.bin .add (.bin .add (.bin .add (.list [v "number"]) (v "names")) (.bin .mul (.list [.str ""]) (.bin .sub (.int 3) (.bi "len" [v "names"])))) (.list [.call "_law_path" [v "names"]])])]⟩
noncomputable def fRow : FX := ⟨["number", "place"], none, [
  .swap ["names", "step"] [.list [], v "place"],
  .whl (.bop true [.cmp .ne (v "step") (.str "/"), .cmp .lt (.bi "len" [v "names"]) (.int 4)]) [
    .unpack ["step", "name"] (.call "split" [v "step"]),
    .assign "names" (.bin .add (.list [v "name"]) (v "names"))],
  .ret (.bi "tuple" [.bin .add (.bin .add (.bin .add (.list [v "number"]) (v "names")) (.bin .mul (.list [.str ""]) (.bin .sub (.int 3) (.bi "len" [v "names"])))) (.list [v "place"])])]⟩
noncomputable def fTold : FX := ⟨["left", "right", "keys"], none, [
  .assignC "ways" (.compR (.bi "str" [.cmpK (.slc (v "keys") .nil (v "k")) (v "left") (v "right")]) "k" 5),
  .ret (.tup [.call "commonpath" [.tup [.idx (v "left") (.int 4), .idx (v "right") (.int 4)]], v "ways"])]⟩
noncomputable def fDue : FX := ⟨["one", "two", "keys"], none, [
  .assign "front" (.call "_law_shared" [.list [.idx (v "one") (.int 2), .idx (v "two") (.int 2)]]),
  .unpack ["turn", "left", "right", "way"] (.tup [.bi "len" [v "front"], .slc (.idx (v "one") (.int 2)) (.bi "len" [v "front"]) .nil,
    .slc (.idx (v "two") (.int 2)) (.bi "len" [v "front"]) .nil, .int 0]),
  .ite (.cmp .eq (v "left") (v "right")) [
    .swap ["turn", "left", "right"] [.int 3, .list [.idx (v "one") (.int 3)], .list [.idx (v "two") (.int 3)]]] [],
  .ite (.cmp .gt (v "left") (v "right")) [.assign "way" (.idx (.idx (v "keys") (v "turn")) (.int 1))]
    [.ite (.cmp .lt (v "left") (v "right")) [.assign "way" (.neg (.idx (.idx (v "keys") (v "turn")) (.int 1)))] []],
  .ret (.tup [.call "_law_path" [v "front"],
    .bin .add (.bin .mul (.list [.str "0"]) (.bin .add (v "turn") (.int 1))) (.bin .mul (.list [.bi "str" [v "way"]]) (.bin .sub (.int 4) (v "turn")))])]⟩
noncomputable def fSorted : FX := ⟨["rows", "keys"], none, [
  .swapComp "done" "order" (v "keys"),
  .for1 "row" (v "rows") [
    .assign "k" (.bi "len" [v "done"]),
    .whl (.bop true [.cmp .gt (v "k") (.int 0), .cmp .gt (.cmpV "order" (.idx (v "done") (.bin .sub (v "k") (.int 1))) (v "row")) (.int 0)]) [
      .assign "k" (.bin .sub (v "k") (.int 1))],
    .assign "done" (.bin .add (.bin .add (.slc (v "done") .nil (v "k")) (.list [v "row"])) (.slc (v "done") (v "k") .nil))],
  .ret (v "done")]⟩
noncomputable def fEndsTell : FX := ⟨["places"], none, [
  .forR "end" (.int 0) (.bi "len" [v "places"]) [
    .forR "start" (.int 0) (.bin .sub (v "end") (.int 1)) [
      .ite (.cmp .ne (.call "commonpath" [.slc (v "places") (v "start") (.bin .add (v "end") (.int 1))])
          (.call "commonpath" [.list [.idx (v "places") (v "start"), .idx (v "places") (v "end")]]))
        [.ret (.bool false)] []]],
  .ret (.bool true)]⟩
noncomputable def fEntered : FX := ⟨["places"], none, [
  .swapOwn "entered" "last" (.str "/"),
  .for1 "place" (v "places") [
    .swap ["step", "shared"] [v "place", .call "commonpath" [.list [v "last", v "place"]]],
    .whl (.bop true [.cmp .notin (v "step") (.list [.str "/", v "shared"]), .cmp .lt (.ownLen "entered") (.int 20)]) [
      .append "entered" (v "step"),
      .assign "step" (.call "dirname" [v "step"])],
    .assign "last" (v "place")],
  .ret (.ownSorted "entered")]⟩
noncomputable def fFronts : FX := ⟨["lists"], none, [
  .newOwn "fronts",
  .for1 "names" (v "lists") [
    .forR "k" (.int 1) (.bin .add (.bi "len" [v "names"]) (.int 1)) [
      .ite (.ownNotIn (.call "_law_path" [.slc (v "names") .nil (v "k")]) "fronts")
        [.append "fronts" (.call "_law_path" [.slc (v "names") .nil (v "k")])] []]],
  .ret (.ownSorted "fronts")]⟩
noncomputable def fLaw : FX := ⟨["script"], none, [
  .assign "cells" (.bop false [.slc (v "script") .nil (.int 5), .list [.int 17, .int 11, .int 1]]),
  .assignC "found" (.comp (.call "_law_drawn" [v "x"]) "x" (v "cells") .nil),
  .assignC "rules" (.compR (.tup [.bin .mod (.bin .add (v "c") (.int 1)) (.int 4),
    .bin .sub (.int 1) (.bin .mul (.int 2) (.bin .mod (.bin .fdiv (.bi "sum" [v "script"]) (.bin .pow (.int 2) (v "c"))) (.int 2)))]) "c" 4),
  .assignC "table" (.comp (.call "_law_row" [.idx (v "f") (.int 3), .call "normpath" [.idx (v "f") (.int 0)]]) "f" (v "found") .nil),
  .ite (.cmp .ne (v "table") (.comp (.call "_law_plain" [.idx (v "f") (.int 3), .idx (v "f") (.int 2)]) "f" (v "found") .nil)) [.ret (.bool false)] [],
  .ite (.cmp .ne (.call "commonpath" [.comp (.idx (v "f") (.int 0)) "f" (v "found") .nil])
      (.call "_law_path" [.call "_law_shared" [.comp (.idx (v "f") (.int 1)) "f" (v "found") .nil]])) [.ret (.bool false)] [],
  .ite (.cmp .ne (.call "commonpath" [.comp (.idx (v "r") (.int 4)) "r" (v "table") .nil])
      (.call "_law_path" [.call "_law_shared" [.comp (.idx (v "f") (.int 2)) "f" (v "found") .nil]])) [.ret (.bool false)] [],
  .forR "j" (.int 0) (.bi "len" [v "table"]) [
    .forR "i" (.int 0) (v "j") [
      .ite (.cmp .ne (.call "_law_told" [.idx (v "table") (v "i"), .idx (v "table") (v "j"), v "rules"])
          (.call "_law_due" [.idx (v "found") (v "i"), .idx (v "found") (v "j"), v "rules"])) [.ret (.bool false)] []]],
  .assignC "tour" (.comp (.idx (v "r") (.int 4)) "r" (.call "_law_sorted" [v "table", v "rules"]) .nil),
  .ret (.bop true [.call "_law_ends_tell" [v "tour"], .cmp .eq (.call "_law_entered" [v "tour"])
    (.call "_law_fronts" [.comp (.idx (v "f") (.int 2)) "f" (v "found") .nil])])]⟩

noncomputable def tabX : List (String × FX) := [("_get_sep", fGetSep), ("join", fJoin), ("split", fSplit), ("splitroot", fSplitroot), ("dirname", fDirname), ("normpath", fNormpath),
  ("commonpath", fCommonpath), ("_law_drawn", fDrawn), ("_law_shared", fShared), ("_law_path", fPath), ("_law_plain", fPlain), ("_law_row", fRow), ("_law_told", fTold),
  ("_law_due", fDue), ("_law_sorted", fSorted), ("_law_ends_tell", fEndsTell), ("_law_entered", fEntered), ("_law_fronts", fFronts), ("law", fLaw)]
noncomputable def tabOf (f : String) : Option FX := tabX.lookup f
noncomputable def runX (n : Nat) (f : String) (args : List PyData) : Option PyData := callX tabOf (cmpX bCompare) n f args
end Mine
end

section
open PySem PySem.W PyProof.Rows
set_option maxRecDepth 100000
set_option maxHeartbeats 0

namespace Mine
set_option tactic.hygienic false
noncomputable def defB (K : Frag) (f : String) (fx : FX) : Bool :=
  gS (nsIn K mainGlobals (Str.ofString f)) fun w => gS w fun v => vRef v fun a => gS (K.lookup a) fun o => dFunc o.data fun fd => bSt fd.body fun body => chSs fd.scope fx.body body && plainFd K fd fx

theorem defB_at {W : Wh} {H : Heap} {K : Frag} {f : String} {fx : FX} (X : K.In H) (G : H.Ns mainGlobals W.mg) (hG : W.G = mainGlobals) (hB : W.B = builtinsNs) (h : defB K f fx = true) : ∃ a o fd body, DefAt W H f fx a o fd body := by
  refine e1_2 (gS_ex h) fun w hm k1 => ?_
  refine e1_2 (gS_ex k1) fun v e1 k2 => ?_
  refine e1_2 (vRef_el k2) fun a e2 k3 => ?_
  refine e1_2 (gS_ex k3) fun o ho k4 => ?_
  refine e1_2 (dFunc_el k4) fun fd hd k5 => ?_
  refine e1_2 (bSt_el k5) fun body hb k6 => ?_
  rw [e1, e2] at hm
  refine and2 (fun h1 h => ?_) k6
  refine e0_7 (plainFd_of X h) fun h2 hc h3 h4 h5 h6 h7 => ?_
  exact ⟨a, o, fd, body, mg_of X G hm, X _ _ ho, hd, hb, h2, hc, h3, h4, h1, hG.symm ▸ h5, hB.symm ▸ h6, h7⟩

end Mine
end

section
open PySem PySem.W PyProof.Rows
set_option maxRecDepth 100000
set_option maxHeartbeats 0

namespace Mine
set_option tactic.hygienic false

noncomputable def initShape (sc : Scope) (ts : List Stmt) : Bool := g1 ts fun z1 => p_Asg z1 fun z2 z3 z4 => p_Att z2 fun z5 nm z6 => p_Name z5 fun s1 z7 => p_Name z3 fun v1 z8 => (s1 == Str.ofString "self" && nm == Str.ofString "comp_select_list" && v1 == Str.ofString "comp_select_list" && seesB sc s1 && seesB sc v1)
theorem inv_initShape {sc : Scope} {P : List Stmt → Prop} {ts : List Stmt} (g : ∀ s1 z7 nm z6 v1 z8 z4, (s1 == Str.ofString "self" && nm == Str.ofString "comp_select_list" && v1 == Str.ofString "comp_select_list" && seesB sc s1 && seesB sc v1) = true → P ([(.Assign [(.Attribute (.Name s1 z7) nm z6)] (.Name v1 z8) z4)])) (h : initShape sc ts = true) : P ts := by
  refine g1_el (P := fun ts => P ts) (fun z1 h1 => ?_) h
  refine p_Asg_el (P := fun z1 => P [z1]) (fun z2 z3 z4 h2 => ?_) h1
  refine p_Att_el (P := fun z2 => P [(.Assign [z2] z3 z4)]) (fun z5 nm z6 h3 => ?_) h2
  refine p_Name_el (P := fun z5 => P [(.Assign [(.Attribute z5 nm z6)] z3 z4)]) (fun s1 z7 h4 => ?_) h3
  refine p_Name_el (P := fun z3 => P [(.Assign [(.Attribute (.Name s1 z7) nm z6)] z3 z4)]) (fun v1 z8 h5 => ?_) h4
  exact g s1 z7 nm z6 v1 z8 z4 h5
noncomputable def fdPlain (K : Frag) (fd : FuncData) (ps : List String) : Bool := plainFd K fd ⟨ps, none, []⟩

noncomputable def clsB (K : Frag) (C fI fC : Addr) : Bool :=
  nsIn K mainGlobals (Str.ofString "TupleComp") == some (some (.ref C)) && makesIn K C && plainGet K C "compare" && hasDictIn K C && findIn K (.ref C) "comp_select_list" == some none &&
  findIn K (.ref C) "__init__" == some (some (.ref fI)) && typeIn K (.ref fI) == some (.type "function") && findIn K (.ref C) "compare" == some (some (.ref fC)) && typeIn K (.ref fC) == some (.type "function") &&
  findIn K (.ref C) "__setattr__" == some (some (.builtin "object.__setattr__")) && plainOver K C && takerIn K C "comp_select_list" == some none && keepIn K (.ref C) &&
  (gS (K.lookup fI) fun o => dFunc o.data fun fd => bSt fd.body fun b => fdPlain K fd ["self", "comp_select_list"] && initShape fd.scope b) &&
  (gS (K.lookup fC) fun o => dFunc o.data fun fd => bSt fd.body fun b => fdPlain K fd ["self", "left", "right"] && chSs fd.scope bCompare b)

end Mine
end

section
open PySem PySem.W PyProof.Rows
set_option maxRecDepth 100000

namespace Mine
set_option tactic.hygienic false

structure FdAt (K : Frag) (H : Heap) (a : Addr) (fd : FuncData) (o : Obj) (ps : List String) (body : List Stmt) : Prop where
  obj : H.get? a = some o
  data : o.data = .func fd
  body_ : fd.body = .stmts body
  closure : fd.closure = []
  code : H.CodeRec fd.code fd.qualname
  scope : scopeB fd.scope = true
  params : paramB fd.scope ⟨ps, none, []⟩ fd.params = true
  g : fd.globals = mainGlobals
  b : fd.builtins = builtinsNs
  defaults : fd.defaults = .none

theorem fdPlain_at {K : Frag} {H : Heap} {a : Addr} {fd : FuncData} {o : Obj} {ps : List String} {body : List Stmt} (X : K.In H) (ho : K.lookup a = some o) (hd : o.data = .func fd) (hb : fd.body = .stmts body) (h : fdPlain K fd ps = true) : FdAt K H a fd o ps body := by
  refine e0_7 (plainFd_of X h) fun h2 hc h3 h4 h5 h6 h7 => ?_
  exact ⟨X _ _ ho, hd, hb, h2, hc, h3, h4, h5, h6, h7⟩

section
variable {prog : Program} {w : World} {W : Wh} {H : Heap} {K : Frag}

theorem clsB_of {C fI fC : Addr} (X : K.In H) (h : clsB K C fI fC = true) :
    nsIn K mainGlobals (Str.ofString "TupleComp") = some (some (.ref C)) ∧ makesIn K C = true ∧ plainGet K C "compare" = true ∧ hasDictIn K C = true ∧ findIn K (.ref C) "comp_select_list" = some none ∧
    findIn K (.ref C) "__init__" = some (some (.ref fI)) ∧ typeIn K (.ref fI) = some (.type "function") ∧ findIn K (.ref C) "compare" = some (some (.ref fC)) ∧ typeIn K (.ref fC) = some (.type "function") ∧
    findIn K (.ref C) "__setattr__" = some (some (.builtin "object.__setattr__")) ∧ plainOver K C = true ∧ takerIn K C "comp_select_list" = some none ∧ keepIn K (.ref C) = true ∧
    (∃ fd o body, FdAt K H fI fd o ["self", "comp_select_list"] body ∧ initShape fd.scope body = true) ∧ (∃ fd o body, FdAt K H fC fd o ["self", "left", "right"] body ∧ chSs fd.scope bCompare body = true) := by
  unfold clsB at h
  simp only [Bool.and_eq_true, beq_iff_eq] at h
  obtain ⟨⟨⟨⟨⟨⟨⟨⟨⟨⟨⟨⟨⟨⟨a1, a2⟩, a3⟩, a4⟩, a5⟩, a6⟩, a7⟩, a8⟩, a9⟩, a10⟩, a11⟩, a12⟩, a13⟩, a14⟩, a15⟩ := h
  refine ⟨a1, a2, a3, a4, a5, a6, a7, a8, a9, a10, a11, a12, a13, ?_, ?_⟩
  · refine e1_2 (gS_ex a14) fun o ho k1 => ?_
    refine e1_2 (dFunc_el k1) fun fd hd k2 => ?_
    refine e1_2 (bSt_el k2) fun body hb k3 => ?_
    exact and2 (fun h1 h2 => ⟨fd, o, body, fdPlain_at X ho hd hb h1, h2⟩) k3
  · refine e1_2 (gS_ex a15) fun o ho k1 => ?_
    refine e1_2 (dFunc_el k1) fun fd hd k2 => ?_
    refine e1_2 (bSt_el k2) fun body hb k3 => ?_
    exact and2 (fun h1 h2 => ⟨fd, o, body, fdPlain_at X ho hd hb h1, h2⟩) k3

theorem cmpAt_inst {cc : Addr} {h : Heap} {ex : List Addr} {L b : Addr} {k : PyData} (c : CmpAt cc h ex L b k) : ∃ dx hs t nn u, InstAt h b ⟨.ref cc, some dx, .plain, #[]⟩ cc (some (dictOf [⟨hs, .str "comp_select_list" t, u⟩] nn)) ∧ Rep h ex u k := by
  refine e5_4 (c) fun dx hs t nn u g gd zz r => ?_
  exact ⟨dx, hs, t, nn, u, ⟨g, rfl, rfl, gd⟩, r⟩

theorem names3 (x y z : String) (a b c : Value) : bindAny (([x, y, z].map Str.ofString).zip [a, b, c]) (fun _ => none) = fun s => if s = Str.ofString z then some c else if s = Str.ofString y then some b else if s = Str.ofString x then some a else none := rfl
theorem names2 (x y : String) (a b : Value) : bindAny (([x, y].map Str.ofString).zip [a, b]) (fun _ => none) = fun s => if s = Str.ofString y then some b else if s = Str.ofString x then some a else none := rfl

theorem cmp_attr {C fI fC : Addr} (X : K.In H) (hC : W.cc = C) (h : clsB K C fI fC = true) (A : Around) (s : Shared) (b : Addr) (k : PyData) (ex : List Addr) (L : Addr) (x : Bool) (Q E : Value → Shared → Prop) (g : Grow H s.heap) (c : CmpAt W.cc s.heap ex L b k)
    (hQ : ∀ v tk, Rep s.heap ex v k → Q v { s with toks := tk }) : wpAny (model prog w) A (getAttr (.ref b) (Str.ofString "comp_select_list") x) Q E s := by
  refine e0_15 (clsB_of X h) fun a1 a2 a3 a4 a5 a6 a7 a8 a9 a10 a11 a12 a13 a14 a15 => ?_
  subst hC
  refine e5_2 (cmpAt_inst c) fun dx hs t nn u I r => ?_
  have hv : handedIn u = true := by cases r <;> rfl
  refine get_value (X.keeps g) I (plainGet_of a3).1 (findObj_own (v := u) a4 a5 rfl ?_) hv (hQ u _ r)
  rw [lookIn_dict]
  unfold getL
  simp [Value.isStr]

theorem cmp_meth {C fI fC : Addr} (X : K.In H) (hC : W.cc = C) (h : clsB K C fI fC = true) (A : Around) (s : Shared) (b : Addr) (k : PyData) (ex : List Addr) (L : Addr) (pl : Sem Bool) (Q : Value × List Value → Shared → Prop) (E : Value → Shared → Prop) (g : Grow H s.heap) (c : CmpAt W.cc s.heap ex L b k)
    (hQ : Q (.ref fC, [.ref b]) s) : wpAny (model prog w) A (getMethod (.ref b) (Str.ofString "compare") pl) Q E s := by
  refine e0_15 (clsB_of X h) fun a1 a2 a3 a4 a5 a6 a7 a8 a9 a10 a11 a12 a13 a14 a15 => ?_
  subst hC
  refine e5_2 (cmpAt_inst c) fun dx hs t nn u I r => ?_
  have h2 : Value.isStr (.str (Str.ofString "comp_select_list") t) (Str.ofString "compare") = false := by
    show (Str.ofString "comp_select_list" == Str.ofString "compare") = false
    decide +kernel
  have hl : getL (Str.ofString "compare") [⟨hs, .str (Str.ofString "comp_select_list") t, u⟩] = some none := by
    unfold getL
    simp only [List.find?_cons, List.find?_nil, List.any_cons, List.any_nil]
    rw [h2]
    rfl
  refine method_fn (X.keeps g) I (plainGet_of a3).1 (plainGet_of a3).2 a8 a9 ?_ hQ
  show (lookIn (Str.ofString "compare") (dictOf [⟨hs, .str (Str.ofString "comp_select_list") t, u⟩] nn)).map _ = _
  rw [lookIn_dict, hl]
  rfl

theorem cmp_with {C fI fC : Addr} (X : K.In H) (hC : W.cc = C) (h : clsB K C fI fC = true) (A : Around) (s : Shared) (env : Env) (pos : Pos) (e : Expr) (Q E : Value → Shared → Prop) (he : starEach [e] env = [(false, eval e env)])
    (hh : wpAny (model prog w) A (eval e env) (fun v s₁ => Grow H s₁.heap ∧ wpAny (model prog w) A (call (.ref W.cc) [v]) Q E s₁) E s) :
    wpAny (model prog w) A (callWith pos (.ref W.cc) [] (backTo pos (starEach [e] env)) []) Q E s := by
  refine e0_15 (clsB_of X h) fun a1 a2 a3 a4 a5 a6 a7 a8 a9 a10 a11 a12 a13 a14 a15 => ?_
  subst hC
  rw [he]
  refine callWith_of (P := K.In) rfl (keeps_K a13) ?_
  refine Calls.evalArgs_plain ?_
  refine Calls.spliced_cons (wpAny_mono hh (fun v s₁ h₁ => ?_) fun _ _ e => e)
  show wpAny _ _ (spliced []) _ _ _
  exact Calls.spliced_nil ⟨X.keeps h₁.1, h₁.2⟩

set_option tactic.hygienic true in
theorem cmp_make {C fI fC : Addr} (X : K.In H) (hC : W.cc = C) (hG : W.G = mainGlobals) (hB : W.B = builtinsNs) (hlim : H.NoLimit) (h : clsB K C fI fC = true) {n : Nat} (A : Around) (s : Shared) (v : Value) (k : PyData) (ex : List Addr) (L : Addr) (Q E : Value → Shared → Prop)
    (rm : Room A (n + 2)) (g : Grow H s.heap) (old : Old s ex) (rv : Rep s.heap ex v k) (hL : ∃ o, s.heap.get? L = some o) (hQ : ∀ h' tk b, Grow s.heap h' → CmpAt W.cc h' ex L b k → Q (.ref b) { s with heap := h', toks := tk }) :
    wpAny (model prog w) A (call (.ref W.cc) [v]) Q E s := by
  refine e0_15 (clsB_of X h) fun a1 a2 a3 a4 a5 a6 a7 a8 a9 a10 a11 a12 a13 zt43 a15 => ?_
  refine e3_2 (zt43) fun fd o body D hsh => ?_
  subst hC
  have Xs := X.keeps g
  obtain ⟨hp, gn, dr, tk, os⟩ := s
  refine wpAny_call (make_core (makes_of Xs a2) (looks_findIn Xs a6) (fun self => bind_fn Xs self a7) (.inl rfl) ?_)
  generalize hA1 : A.under (.builtin "type.__call__" ⟨[.ref W.cc, v], []⟩) = A1
  have u1 : A1.handled = A.handled := by rw [← hA1]; rfl
  have u2 : A1.depth = A.depth + 1 := by rw [← hA1]; rfl
  have u3 : A1.units = A.units + 1 := by rw [← hA1]; rfl
  dsimp only at g old rv hL hQ Xs
  have z1 : (hp.push emptyDict).objs.size = hp.objs.size + 1 := Heap.size_push ..
  have gA : Grow hp ((hp.push emptyDict).push (instObj W.cc hp.objs.size)) := (Grow.push _ _).trans (Grow.push _ _)
  have fr : ∀ a, hp.objs.size ≤ a → hp.get? a = none := fun a ha => Grow.fresh ha
  have gx : ((hp.push emptyDict).push (instObj W.cc hp.objs.size)).get? (hp.objs.size + 1) = some (instObj W.cc hp.objs.size) := by
    have := Heap.get?_push_size (hp.push emptyDict) (o := instObj W.cc hp.objs.size) rfl
    rw [z1] at this; exact this
  have gd : ((hp.push emptyDict).push (instObj W.cc hp.objs.size)).get? hp.objs.size = some emptyDict := Heap.get?_push_of_some _ (Heap.get?_push_size _ rfl)
  have hpar := D.params
  unfold paramB at hpar
  simp only [Bool.and_eq_true, beq_iff_eq, decide_eq_true_eq, List.isEmpty_iff, Option.isNone_iff_eq_none] at hpar
  refine l9 (hpar) fun p1 p2 p3 p4 p5 p6 p7 p8 p9 => ?_
  have kinds : ∀ x ∈ ["self", "comp_select_list"].map Str.ofString, fd.scope.names.lookup x = some .local ∨ fd.scope.names.lookup x = some .cell := fun x hx => by
    refine e1_2 (List.mem_map.mp hx) fun p hpm ze24 => ?_; subst ze24
    exact sees_of (List.all_eq_true.mp p9 p (by simpa using hpm))
  have p7' : fd.params.vararg = none := by cases e : fd.params.vararg with | none => rfl | some z => rw [e] at p7; cases p7
  refine codeAny_mono (run_any (W := W) (n := n) (names := ["self", "comp_select_list"].map Str.ofString) (s := ⟨(hp.push emptyDict).push (instObj W.cc hp.objs.size), gn, dr, tk, os⟩) (ρ := upd (fun _ => .no) "comp_select_list" (.val k)) (ex := ex)
    (Q := fun v s' => v = .none ∧ (match (Except.ok (.ret (.ref (hp.objs.size + 1))) : Result) with | .ok (.ret v) => Q v s' | .ok _ => False | .error e => E e s')) (E := fun e s' => E e s')
    (gA _ _ (g _ _ D.obj)) D.data D.body_ D.closure ((D.code.keeps g).keeps gA) D.scope p1 p2 p4 p7' p6 p8 rfl kinds (by rw [hG]; exact D.g) (by rw [hB]; exact D.b) D.defaults ((hlim.keeps g).keeps gA)
    (fun env => ⟨u1.trans rm.handled, by have := rm.depth; show A1.depth + 1 + n < 900; lia, by have := rm.units; show A1.units + 3 + 8 * n + 128 < cLine; lia⟩) (by have := rm.depth; lia)
    (fun a ha => let ⟨o, e⟩ := old a ha; ⟨o, gA _ _ e⟩) (fun h1 L1 g1 hL1 x => ?_) (fun x ds => ?_) fun A' env h2 tk2 E' cx hscope hLoc N => ?_) (fun r s' hr => ?_)
  · by_cases e : x = "comp_select_list"
    · subst e
      simp only [upd, if_true]
      exact ⟨v, by rw [names2]; simp, (rv.grow gA).grow g1⟩
    · simp only [upd, if_neg e]; trivial
  · by_cases e : x = "comp_select_list"
    · subst e; simp [upd]
    · simp [upd, e]
  · skip
    refine inv_initShape (P := fun body => wpAny (model prog w) A' (execs body env) _ E' _) (fun s1 z7 nm z6 v1 z8 z4 hsh => ?_) hsh
    refine and5 (fun e1 e2 e3 e4 e5 => ?_) hsh
    · skip
      have e1 := str_eq e1; subst e1
      have e2 := str_eq e2; subst e2
      have e3 := str_eq e3; subst e3
      rw [names2] at N
      have hkind : env.scope.kind = .function := cx.eo.kind
      have hne : Str.ofString "self" ≠ Str.ofString "comp_select_list" := fun z => absurd (ofString_inj z) (by decide)
      refine wpAny_execs_cons (plainObj_wpAny_Assign_Attribute ?_)
      refine wpAny_Name (N.1.get hkind (seen_of (hscope ▸ e5)) (v := v) (by simp) ?_) (by decide +kernel)
      refine wpAny_Name (N.1.get hkind (seen_of (hscope ▸ e4)) (v := .ref (hp.objs.size + 1)) (by simp [hne]) ?_) (by decide +kernel)
      refine e0_3 (N.1) fun zt25 zz zz => ?_
      refine e1_2 (zt25) fun m hn hm => ?_
      have G2 : Grow hp h2 := gA.trans cx.st.grow
      have z3 : ((hp.push emptyDict).push (instObj W.cc hp.objs.size)).objs.size = hp.objs.size + 1 + 1 := by rw [Heap.size_push, z1]
      rw [z3] at hLoc
      have F : Fr hp env.locals h2 m := ⟨hn, G2, Nat.le_trans (Nat.le_succ _) (Nat.le_trans (Nat.le_succ _) hLoc)⟩
      have NW : News hp env.locals h2 [(hp.objs.size + 1, instObj W.cc hp.objs.size), (hp.objs.size, emptyDict)] := fun p hpm => by
        rcases List.mem_cons.mp hpm with rfl | hpm
        · exact ⟨cx.st.grow _ _ gx, Nat.ne_of_lt hLoc, fr _ (Nat.le_succ _)⟩
        · simp at hpm; subst hpm
          exact ⟨cx.st.grow _ _ gd, Nat.ne_of_lt (Nat.lt_of_lt_of_le (Nat.lt_succ_self _) (Nat.le_of_lt hLoc)), fr _ (Nat.le_refl _)⟩
      have I : InstAt h2 (hp.objs.size + 1) (instObj W.cc hp.objs.size) W.cc (some (dictOf [] 0)) := ⟨cx.st.grow _ _ gx, rfl, rfl, cx.st.grow _ _ gd⟩
      refine set_dict (s := ⟨h2, gn, dr, tk2, os⟩) F Xs NW I rfl a10 a11 a12 a4 rfl (es' := [⟨PyData.keyHash w.params (Str.ofString "comp_select_list"), .str (Str.ofString "comp_select_list") (tk2 + 1), v⟩]) (n' := putN (Str.ofString "comp_select_list") [] 0) rfl (.tail (Nat.succ_ne_self _) (.head fun p hp => (nomatch hp))) (by show 1 ≤ 1000; lia) fun h' F' N' => ?_
      refine wpAny_execs_nil ⟨rfl, ?_⟩
      have x1 := (N' _ (.head _)).1
      have x2 := (N' _ (.tail _ (.head _))).1
      have rv' : Rep h' ex v k := rv.grow F'.keep
      refine hQ h' (tk2 + 2) (hp.objs.size + 1) F'.keep ⟨hp.objs.size, _, _, _, v, x1, x2, ?_, rv'⟩
      rintro rfl
      refine e1_1 (hL) fun o e => ?_
      exact Nat.lt_irrefl _ (Heap.lt_size e)
  · cases r with
    | error e => exact hr
    | ok f =>
      cases f with
      | ret v => exact hr
      | _ => exact hr.elim
end
end Mine
end

section
open PySem PySem.W PyProof.Rows
open Sem (wp)
set_option maxRecDepth 100000

namespace Mine
set_option tactic.hygienic false

theorem m_next : Slot "map" "__next__" "map.__next__" := .of (owner := "map") (n := "__next__") (by rw [typeLookup_type, builtinLookup_eq_fast]; kernel_rfl) (by decide +kernel) (by decide +kernel) (by decide +kernel)
    (by first | exact .inl (by decide +kernel) | exact .inr (by decide +kernel)) (by rw [isSubtype_type]; kernel_rfl)
theorem m_iter : Slot "map" "__iter__" "map.__iter__" := .of (owner := "map") (n := "__iter__") (by rw [typeLookup_type, builtinLookup_eq_fast]; kernel_rfl) (by decide +kernel) (by decide +kernel) (by decide +kernel)
    (by first | exact .inl (by decide +kernel) | exact .inr (by decide +kernel)) (by rw [isSubtype_type]; kernel_rfl)
theorem m_init : Slot "map" "__init__" "object.__init__" := .of (owner := "object") (n := "__init__") (by rw [typeLookup_type, builtinLookup_eq_fast]; kernel_rfl) (by decide +kernel) (by decide +kernel) (by decide +kernel)
    (by first | exact .inl (by decide +kernel) | exact .inr (by decide +kernel)) (by rw [isSubtype_type]; kernel_rfl)
theorem m_enext : entryFor table "map.__next__" = some Builtin.«map.__next__» := entryFor_of_tree (by kernel_rfl)
theorem m_enew : entryFor table "map.__new__" = some Builtin.«map.__new__» := entryFor_of_tree (by kernel_rfl)
theorem m_eiter : entryFor table "map.__iter__" = some Builtin.«dict_keyiterator.__iter__» :=
  entryFor_alias (id' := "dict_keyiterator.__iter__") (by kernel_rfl) (by first | rfl | decide +kernel | (unfold String.splitOn; simp +decide [String.splitOnAux])) (by decide +kernel) (by kernel_rfl)
theorem m_mro : mroOf (.type "map") = pure [.type "map", .type "object"] := by rw [mroOf_type]; kernel_rfl
theorem m_lnew : typeLookup (.type "map") "__new__" = pure (some (.builtin "map.__new__")) := by rw [typeLookup_type, builtinLookup_eq_fast]; kernel_rfl
theorem m_called : TypeCalled "map" "map.__new__" "object.__init__" :=
  ⟨by decide +kernel, by decide +kernel, ⟨_, _, m_mro⟩, madeBy_type m_mro m_lnew (by decide +kernel), by decide +kernel, by rw [isSubtype_type]; kernel_rfl, m_init⟩
theorem m_tc (a b : Value) : checkTypeCall "map" ⟨[a, b], []⟩ = pure () := by kernel_rfl
theorem m_nc (a b : Value) : checkBuiltinCall "map.__new__" ⟨[.type "map", a, b], []⟩ = pure () := by kernel_rfl
theorem m_anext (a : Value) : argsOk "map.__next__" ⟨[a], []⟩ := by unfold argsOk; kernel_rfl
theorem m_aiter (a : Value) : argsOk "map.__iter__" ⟨[a], []⟩ := by unfold argsOk; kernel_rfl
theorem m_ainit (o a b : Value) : argsOk "object.__init__" ⟨[o, a, b], []⟩ := by unfold argsOk; kernel_rfl
theorem m_nolen : typeLookup (.type "map") "__len__" = pure none := by rw [typeLookup_type, builtinLookup_eq_fast]; kernel_rfl
theorem m_nohint : typeLookup (.type "map") "__length_hint__" = pure none := by rw [typeLookup_type, builtinLookup_eq_fast]; kernel_rfl
theorem m_sub : isSubtype (.type "map") (.type "map") = pure true := by rw [isSubtype_type]; kernel_rfl

section
variable {prog : Program} {w : World} {A : Around} {E : Value → Shared → Prop} {s : Shared} {it t : Addr} {i : Nat} {items : Array Value}

/-- one step of a tuple's iterator, where an item is left -/
theorem tup_step {x : Value} {Q : Fin → Shared → Prop} (hit : IsTupIter s.heap it t i) (ht : IsTup s.heap t items) (hx : items[i]? = some x)
    (hQ : ∀ h', IsTupIter h' it t (i + 1) → Heap.SameBut it s.heap h' → Q (.done (.ret x)) { s with heap := h' }) : wpAny (model prog w) A (Builtin.«tuple_iterator.__next__» ⟨[.ref it], []⟩) Q E s := by
  refine e1_3 (id hit) fun o h1 h2 h3 => ?_
  obtain ⟨p, g1, g2, k, g3⟩ := id ht
  wp_walk using wpAny_field h1 h3 (i := 0) (x := .ref t) rfl, wpAny_field h1 h3 (i := 1) (x := .int i 0) rfl, wpAny_seqItems g1 g3, wpAny_setField h1 h3 (by simp)
  rw [Int.toNat_natCast, hx]
  wp_walk using wpAny_setField h1 h3 (by simp)
  refine hQ _ ⟨_, Heap.get?_update_self _ h1 (Obj.isFreed_of_fields (Obj.data_mapFields h3 _)), ?_, ?_⟩ (Heap.SameBut.update ..)
  · rw [Obj.cls_mapFields]; exact h2
  · rw [Obj.data_mapFields h3]; simp [rawInt]

/-- and where none is left -/
theorem tup_stop {Q : Fin → Shared → Prop} (hh : A.handled = none) (hit : IsTupIter s.heap it t i) (ht : IsTup s.heap t items) (hx : items[i]? = none)
    (hE : ∀ h' e, Heap.ExtBut it s.heap h' → (∃ o, h'.get? e = some o ∧ o.cls = .type "StopIteration") → E (.ref e) { s with heap := h' }) : wpAny (model prog w) A (Builtin.«tuple_iterator.__next__» ⟨[.ref it], []⟩) Q E s := by
  refine e1_3 (id hit) fun o h1 h2 h3 => ?_
  obtain ⟨p, g1, g2, k, g3⟩ := id ht
  wp_walk using wpAny_field h1 h3 (i := 0) (x := .ref t) rfl, wpAny_field h1 h3 (i := 1) (x := .int i 0) rfl, wpAny_seqItems g1 g3
  rw [Int.toNat_natCast, hx]
  have no : firstArgMember (.type "StopIteration") [] = pure Value.none := by rfl
  wp_walk using wpAny_setField h1 h3 (by simp)
  unfold raiseNew
  wp_walk
  exact hE _ _ (((Heap.SameBut.update ..).extBut.push _).push _) ⟨_, Heap.get?_push_size _ rfl, rfl⟩
end

theorem draws_tuple {prog : Program} {w : World} {A : Around} (hh : A.handled = none) (it l : Addr) (hne : l ≠ it) (items : Array Value) :
    Draws prog w A it [it, l] items.size (fun i v => items[i]? = some v) (fun i h => IsTupIter h it l i ∧ IsTup h l items) where
  live := fun _ _ st => let ⟨o, ho, _⟩ := st.1; ⟨o, ho⟩
  frame := fun _ _ _ st hk => ⟨let ⟨o, e, r⟩ := st.1; ⟨o, hk it (by simp) o e, r⟩, let ⟨o, e, r⟩ := st.2; ⟨o, hk l (by simp) o e, r⟩⟩
  item := fun i s Q E hi st hQ => by
    have T := IsTupIter.typeIs st.1
    refine wpAny_bind (wpAny_callSpecial?_slot (name := Str.ofString "__next__") T slot_tupleiter_next (wpAny_call_entry slot_tupleiter_next T entry_tupleiter_next (tup_step st.1 st.2 (x := items[i]) (by simp [hi]) fun h' hit' hs' => ?_) (args_tupleiter_next _)))
    exact ⟨_, rfl, wpAny_pure (hQ _ h' s.toks (by simp [hi]) ⟨hit', let ⟨o, e, r⟩ := st.2; ⟨o, hs'.extBut l o hne e, r⟩⟩ hs')⟩
  done := fun s Q E st hE => by
    have T := IsTupIter.typeIs st.1
    exact wpAny_bind (wpAny_callSpecial?_slot (name := Str.ofString "__next__") T slot_tupleiter_next (wpAny_call_entry slot_tupleiter_next T entry_tupleiter_next (tup_stop hh st.1 st.2 (by simp) hE) (args_tupleiter_next _)))
end Mine
end

section
open PySem PySem.W PyProof.Rows
open Sem (wp)
open AutoSeq1 (wpAny_loadPart')
set_option maxRecDepth 100000

namespace Mine
set_option tactic.hygienic false

noncomputable abbrev IsMap (h : Heap) (m T f : Addr) : Prop := h.get? m = some { cls := .type "map", dict := none, data := .fields #[.ref T, .ref f], slots := #[] }

section
variable {prog : Program} {w : World} {A : Around} {E : Value → Shared → Prop} {s : Shared}

theorem map_new {f : Addr} {v : Value} {o : Obj} {Q : Fin → Shared → Prop} (hI : ∀ (A : Around) (Q E : Value → Shared → Prop), Q (.ref s.heap.objs.size) { s with heap := s.heap.push o } → wpAny (model prog w) A (pyIter v) Q E s)
    (h : Q (.done (.ret (.ref (((s.heap.push o).push { cls := .type "tuple", data := .seq #[.ref s.heap.objs.size] }).objs.size))))
      { s with heap := ((s.heap.push o).push { cls := .type "tuple", data := .seq #[.ref s.heap.objs.size] }).push { cls := .type "map", data := .fields #[.ref (s.heap.push o).objs.size, .ref f] } }) :
    wpAny (model prog w) A (Builtin.«map.__new__» ⟨[.type "map", .ref f, v], []⟩) Q E s := by
  have hsub := m_sub
  obtain ⟨hp, g, d, tk, os⟩ := s
  wp_walk using hI _ _ _
  exact h
end

theorem map_meets (f : Addr) (v : Value) (o : Obj) : Meets (Builtin.«map.__new__» ⟨[.type "map", .ref f, v], []⟩) (fun _ R s =>
    (∀ (prog : Program) (w : World) (A : Around) (Q E : Value → Shared → Prop), Q (.ref s.heap.objs.size) { s with heap := s.heap.push o } → wpAny (model prog w) A (pyIter v) Q E s) ∧
    R (.ok (.ret (.ref (((s.heap.push o).push { cls := .type "tuple", data := .seq #[.ref s.heap.objs.size] }).objs.size))))
      { s with heap := ((s.heap.push o).push { cls := .type "tuple", data := .seq #[.ref s.heap.objs.size] }).push { cls := .type "map", data := .fields #[.ref (s.heap.push o).objs.size, .ref f] } }) :=
  fun prog w _ _ s hs => map_new (fun A Q E h => hs.1 prog w A Q E h) hs.2

section
variable {prog : Program} {w : World} {A : Around} {E : Value → Shared → Prop} {s : Shared}
theorem call_map {f : Addr} {v : Value} {o : Obj} {Q : Value → Shared → Prop} (hI : ∀ (prog : Program) (w : World) (A : Around) (Q E : Value → Shared → Prop), Q (.ref s.heap.objs.size) { s with heap := s.heap.push o } → wpAny (model prog w) A (pyIter v) Q E s)
    (h : ∀ h' T m, T = s.heap.objs.size + 1 → m = s.heap.objs.size + 2 → IsMap h' m T f → h'.get? T = some { cls := .type "tuple", data := .seq #[.ref s.heap.objs.size] } → Grow (s.heap.push o) h' → h'.objs.size = s.heap.objs.size + 3 → Q (.ref m) { s with heap := h' }) :
    wpAny (model prog w) A (call (.type "map") [.ref f, v]) Q E s := by
  refine callType_new m_called (by decide) (m_tc _ _) (m_nc _ _) (fun obj => m_ainit obj _ _) m_enew (map_meets f v o) ⟨hI, ?_⟩
  have z1 : (s.heap.push o).objs.size = s.heap.objs.size + 1 := Heap.size_push ..
  have z2 : ((s.heap.push o).push { cls := .type "tuple", data := .seq #[.ref s.heap.objs.size] }).objs.size = s.heap.objs.size + 2 := by rw [Heap.size_push, z1]
  have m1 : IsMap (((s.heap.push o).push { cls := .type "tuple", data := .seq #[.ref s.heap.objs.size] }).push { cls := .type "map", data := .fields #[.ref (s.heap.push o).objs.size, .ref f] }) (((s.heap.push o).push { cls := .type "tuple", data := .seq #[.ref s.heap.objs.size] }).objs.size) (s.heap.push o).objs.size f := Heap.get?_push_size _ rfl
  refine ⟨⟨_, m1, rfl⟩, h _ (s.heap.push o).objs.size _ z1 z2 m1 (Heap.get?_push_of_some _ (Heap.get?_push_size _ rfl)) ((Grow.push _ _).trans (Grow.push _ _)) (by rw [Heap.size_push, z2])⟩

/-- the next of a map -/
theorem map_next {m T I f : Addr} {fp : List Addr} {n i : Nat} {P : Nat → Value → Prop} {St : Nat → Heap → Prop} {Q : Value → Shared → Prop} (hm : IsMap s.heap m T f) (hT : s.heap.get? T = some { cls := .type "tuple", data := .seq #[.ref I] })
    (D : Draws prog w A I fp n P St) (hst : St i s.heap) (hi : i < n) (hIm : I ≠ m)
    (h : ∀ x h' tk, P i x → St (i + 1) h' → Heap.SameBut I s.heap h' → wpAny (model prog w) A (call (.ref f) [x]) Q E { s with heap := h', toks := tk }) :
    wpAny (model prog w) A (Builtin.«map.__next__» ⟨[.ref m], []⟩) (fun fin s' => ∃ v, fin = .done (.ret v) ∧ Q v s') E s := by
  show wpAny _ _ (field (.ref m) 0 >>= _) _ _ _
  refine wpAny_bind (wpAny_field hm rfl (x := .ref T) rfl ?_)
  show wpAny _ _ (seqItems? (.ref T) >>= _) _ _ _
  refine wpAny_bind (wpAny_seqItems hT rfl ?_)
  dsimp only
  refine wpAny_bind ?_
  rw [← Array.forIn_toList]
  show wpAny _ _ (forIn [Value.ref I] _ _) _ _ _
  rw [List.forIn_cons]
  refine wpAny_bind (wpAny_bind (wpAny_holding (D.item i s _ _ hi hst fun x h' tk hP st' hs' => ?_)))
  refine wpAny_pure ?_
  dsimp only
  rw [List.forIn_nil]
  refine wpAny_pure ?_
  have hm' : IsMap h' m T f := (hs'.2 _ (Ne.symm hIm)).trans hm
  refine wpAny_bind (wpAny_field (s := { s with heap := h', toks := tk }) hm' rfl (x := .ref f) rfl ?_)
  refine wpAny_bind (wpAny_holding (wpAny_mono (h x h' tk hP st' hs') (fun r s₂ hr => ?_) fun _ _ e => e))
  exact wpAny_bind (wpAny_letGo (wpAny_pure ⟨r, rfl, hr⟩))

theorem map_end {m T I f : Addr} {fp : List Addr} {n : Nat} {P : Nat → Value → Prop} {St : Nat → Heap → Prop} {Q : Fin → Shared → Prop} (hm : IsMap s.heap m T f) (hT : s.heap.get? T = some { cls := .type "tuple", data := .seq #[.ref I] })
    (D : Draws prog w A I fp n P St) (hst : St n s.heap)
    (h : ∀ h' e, Heap.ExtBut I s.heap h' → (∃ o, h'.get? e = some o ∧ o.cls = .type "StopIteration") → E (.ref e) { s with heap := h' }) :
    wpAny (model prog w) A (Builtin.«map.__next__» ⟨[.ref m], []⟩) Q E s := by
  show wpAny _ _ (field (.ref m) 0 >>= _) _ _ _
  refine wpAny_bind (wpAny_field hm rfl (x := .ref T) rfl ?_)
  show wpAny _ _ (seqItems? (.ref T) >>= _) _ _ _
  refine wpAny_bind (wpAny_seqItems hT rfl ?_)
  dsimp only
  refine wpAny_bind ?_
  rw [← Array.forIn_toList]
  show wpAny _ _ (forIn [Value.ref I] _ _) _ _ _
  rw [List.forIn_cons]
  exact wpAny_bind (wpAny_bind (wpAny_holding (D.done s _ _ hst h)))

theorem pyNext_map_item {m T I f : Addr} {fp : List Addr} {n i : Nat} {P : Nat → Value → Prop} {St : Nat → Heap → Prop} {Q : Option Value → Shared → Prop} (hm : IsMap s.heap m T f) (hT : s.heap.get? T = some { cls := .type "tuple", data := .seq #[.ref I] })
    (D : Draws prog w A.in1 I fp n P St) (hst : St i s.heap) (hi : i < n) (hIm : I ≠ m)
    (h : ∀ x h' tk E', P i x → St (i + 1) h' → Heap.SameBut I s.heap h' → wpAny (model prog w) A.in1 (call (.ref f) [x]) (fun r s' => Q (some r) s') E' { s with heap := h', toks := tk }) :
    wpAny (model prog w) A (pyNext (.ref m)) Q E s := by
  have hTy : s.TypeIs (.ref m) "map" := ⟨_, hm, rfl⟩
  unfold pyNext
  refine wpAny_bind (wpAny_attempt (wpAny_callSpecial?_slot (name := Str.ofString "__next__") hTy m_next
    (wpAny_call_entry m_next hTy m_enext (map_next (A := A.in1) (Q := fun r s' => wpAny (model prog w) A (pure (some r)) Q E s') hm hT D hst hi hIm fun x h' tk hP st' hs' => ?_) (m_anext _))))
  exact wpAny_mono (h x h' tk _ hP st' hs') (fun r s' hr => wpAny_pure hr) fun _ _ e => e

theorem pyNext_map_end {m T I f : Addr} {fp : List Addr} {n : Nat} {P : Nat → Value → Prop} {St : Nat → Heap → Prop} {Q : Option Value → Shared → Prop} (hm : IsMap s.heap m T f) (hT : s.heap.get? T = some { cls := .type "tuple", data := .seq #[.ref I] })
    (D : Draws prog w A.in1 I fp n P St) (hst : St n s.heap) (h : ∀ h', Heap.ExtBut I s.heap h' → Q none { s with heap := h' }) :
    wpAny (model prog w) A (pyNext (.ref m)) Q E s := by
  have hTy : s.TypeIs (.ref m) "map" := ⟨_, hm, rfl⟩
  unfold pyNext
  refine wpAny_bind (wpAny_attempt (wpAny_callSpecial?_slot (name := Str.ofString "__next__") hTy m_next
    (wpAny_call_entry m_next hTy m_enext (map_end (A := A.in1) hm hT D hst fun h' e he hx => ?_) (m_anext _))))
  refine e1_2 (hx) fun o ho hc => ?_
  refine wpAny_bind (wpAny_isInstance (T := "StopIteration") (b := true) ⟨o, ho, hc⟩ isSubtype_stop ?_)
  exact wpAny_pure (h _ he)

theorem pyIter_map {m T f : Addr} {Q : Value → Shared → Prop} (hm : IsMap s.heap m T f) (h : Q (.ref m) s) : wpAny (model prog w) A (pyIter (.ref m)) Q E s := by
  have hT : s.TypeIs (.ref m) "map" := ⟨_, hm, rfl⟩
  refine wpAny_pyIter_slot hT m_iter (wpAny_call_entry m_iter hT m_eiter ?_ (m_aiter _))
  show wpAny _ _ (ret (.ref m)) _ _ s
  exact wpAny_pure ⟨_, rfl, "map", _, hT, m_next.lookup, h⟩
end
end Mine
end

section
open PySem PySem.W PyProof.Rows
set_option maxRecDepth 100000

namespace Mine
set_option tactic.hygienic false
/-! a list, and then a tuple, of what a map gives -/
section
variable {prog : Program} {w : World} {A : Around} {E : Value → Shared → Prop} {R : Result → Shared → Prop} {s : Shared} {I S : Addr} {fp wr : List Addr} {G : Array GenState → Array GenState → Prop} {n : Nat} {P : Nat → Value → Prop} {St : Nat → Shared → Prop}

/-- making room in an empty list changes nothing else -/
theorem touch_ok {Q : Unit → Shared → Prop} {c : Nat} (hS : s.heap.get? S = some (keepO #[] c))
    (h : ∀ h' c', h'.get? S = some (keepO #[] c') → (∀ b o, b ≠ S → s.heap.get? b = some o → h'.get? b = some o) → Q () { s with heap := h' }) : wpAny (model prog w) A (Builtin.List.listTouch (.ref S)) Q E s := by
  have h1 := Heap.get?_update_self (Obj.mapSeq (·.push Value.none)) hS rfl
  have h2 := Heap.get?_update_self (Obj.mapSeq (·.pop)) h1 rfl
  refine wpAny_bind (?_ : wpAny _ _ (updateSeq S (·.push .none)) _ _ _)
  refine wpAny_updateSeq hS rfl (?_ : wpAny _ _ (updateSeq S (·.pop)) _ _ _)
  refine wpAny_updateSeq h1 rfl (h _ _ h2 fun b o hb e => ?_)
  rw [Heap.get?_update_other _ _ (Ne.symm hb), Heap.get?_update_other _ _ (Ne.symm hb)]; exact e

/-- an empty list takes up what the map gives -/
theorem iadd_map {c : Nat} (W : WalksS prog w A.in1 I fp wr G n P St) (hT : ∀ i s, St i s → s.TypeIs (.ref I) "map") (hst : St 0 s) (hI : I ∈ fp) (hS : s.heap.get? S = some (keepO #[] c)) (hSf : S ∉ fp) (hn : n ≤ sizeLine)
    (hR : ∀ s' acc c', Moved (S :: wr) G s s' → s'.heap.get? S = some (keepO acc c') → ItemsOf P acc n → R (.ok (.ret (.ref S))) s') : codeAny (model prog w) A (.builtin "list.__iadd__" ⟨[.ref S, .ref I], []⟩) R s := by
  have ne : S ≠ I := fun z => hSf (z ▸ hI)
  have same : Builtin.List.listSameRef (.ref S) (.ref I) = false := by simp [Builtin.List.listSameRef, ne]
  have n1 := m_nolen
  have n2 := m_nohint
  have hTI := hT 0 _ hst
  refine codeAny_builtin F.entry_list_iadd ?_
  rw [Around.under_plainId F.plain_list_iadd _]
  wp_walk using W.self 0 _ _ _ hst, touch_ok hS
  intro h' c' hS' oth
  have hst' := W.frame 0 s h' s.toks hst (Nat.le_refl _) fun b hb o e => oth b o (fun z => hSf (z ▸ hb)) e
  refine wpAny_pure ⟨plainId_quiet F.plain_extend_loop _, codeAny_extend_loopS W hn S hSf _ n 0 _ #[] c' rfl (Nat.zero_le _) hst' hS' (ItemsOf.nil P) fun s' acc c2 mv hS2 hacc => hR s' acc c2 ?_ hS2 hacc⟩
  exact Moved.trans W.gtrans ((Moved.refl W.grefl).then_heap (Nat.le_refl _) fun b o hb e => oth b o (fun z => hb (by simp [z])) e) mv

theorem list_of_map {Q : List Value → Shared → Prop} (W : WalksS prog w A.in1 I fp wr G n P St) (hT : ∀ i s, St i s → s.TypeIs (.ref I) "map") (hst : St 0 s) (hfp : ∀ b ∈ fp, b < s.heap.objs.size) (hI : I ∈ fp) (hn : n ≤ sizeLine)
    (hQ : ∀ s' acc, Moved wr G s s' → ItemsOf P acc n → Q acc.toList s') : wpAny (model prog w) A (collect (.ref I)) Q E s := by
  have new : s.heap.objs.size ∉ fp := fun h => Nat.lt_irrefl _ (hfp _ h)
  refine wpAny_bind (wpAny_runValue (codeAny_builtin F.entry_proto_collect ?_))
  rw [Around.under_plainId F.plain_proto_collect _]
  wp_walk
  have hst' := W.frame 0 s (s.heap.push (keepO #[] 0)) s.toks hst (Nat.le_refl _) fun b _ o e => Heap.get?_push_of_some _ e
  refine ⟨plainId_quiet F.plain_list_iadd _, iadd_map W hT hst' hI (Heap.get?_push_size _ rfl) new hn fun s' acc c' mv hS hacc => ?_⟩
  wp_walk using wpAny_load hS
  exact hQ s' acc (Moved.drop_new (o := keepO #[] 0) (tk := s.toks) mv (Nat.le_refl _)) hacc

theorem call_tuple_map {Q : Value → Shared → Prop} (W : WalksS prog w A.in1.in1.in1 I fp wr G n P St) (hT : ∀ i s, St i s → s.TypeIs (.ref I) "map") (hst : St 0 s) (hfp : ∀ b ∈ fp, b < s.heap.objs.size) (hI : I ∈ fp)
    (hQ : ∀ s' acc, Moved wr G s s' → ItemsOf P acc n → Q (.ref s'.heap.objs.size) { s' with heap := s'.heap.push { cls := .type "tuple", data := .seq acc } }) (hn : n ≤ sizeLine) : wpAny (model prog w) A (call (.type "tuple") [.ref I]) Q E s := by
  have made : codeAny (model prog w) A.in1 (.call (.builtin "tuple.__new__") ⟨[.type "tuple", .ref I], []⟩) (wants (fun v s₁ => s₁.TypeIs v "tuple" ∧ Q v s₁) E) s := by
    have k1 := F.newCall_tuple_1 (.ref I)
    refine codeAny_of_tree ?_
    wp_walk
    refine ⟨plainId_quiet F.plain_tuple_new _, codeAny_builtin F.entry_tuple_new ?_⟩
    rw [Around.under_plainId F.plain_tuple_new _]
    have k2 := sub_tuple_self
    have k3 := init_tuple_lookup
    have k4 := madeHere_tuple
    have k5 := hT 0 s hst
    wp_walk using list_of_map W hT hst hfp hI hn
    intro s' acc mv hacc
    have small : acc.size ≤ sizeLine := by rw [hacc.1]; exact hn
    have e : acc.toList.toArray = acc := Array.toArray_toList ..
    rw [e]
    refine wpAny_bind (wpAny_pure ?_)
    refine wpAny_bind ?_
    refine wpAny_newObj_type ?_ (by exact small)
    refine wpAny_pure ?_
    exact ⟨⟨_, Heap.get?_push_size _ rfl, rfl⟩, hQ s' acc mv hacc⟩
  refine callType_codes F.called_tuple (F.typeCall_tuple_1 _) F.entry_object_init made fun v s₁ h => ⟨h.1, F.args_object_init_2 v _, ?_⟩
  exact object_init_meets F.called_tuple.init.lookup F.called_tuple.made (by decide) prog w A.in1 _ s₁ ⟨h.1, rfl, h.2⟩
end
end Mine
end

section
open PySem PySem.W PyProof.Rows
open Sem (wp)
set_option maxRecDepth 100000

namespace Mine
set_option tactic.hygienic false

/-- fspath on a text, as map calls it -/
noncomputable def FspAt (prog : Program) (w : World) (W : Wh) (H : Heap) (f : Addr) : Prop := ∀ (A : Around) (s : Shared) (x : Str) (t : Tok) (Q E : Value → Shared → Prop), Room A 1 → Grow H s.heap → x.length ≤ sizeLine →
  (∀ h' tk t', Grow s.heap h' → Q (.str x t') { s with heap := h', toks := tk }) → wpAny (model prog w) A (call (.ref f) [.str x t]) Q E s

section
variable {prog : Program} {w : World} {W : Wh} {H : Heap} {A : Around}

/-- the addresses that H holds -/
noncomputable def held (H : Heap) : List Addr := (List.range H.objs.size).filter fun b => (H.get? b).isSome
theorem mem_held {H : Heap} {b : Addr} {o : Obj} (e : H.get? b = some o) : b ∈ held H := List.mem_filter.mpr ⟨List.mem_range.mpr (Heap.lt_size e), by rw [e]; rfl⟩
theorem held_mem {H : Heap} {b : Addr} (h : b ∈ held H) : ∃ o, H.get? b = some o := by
  have := (List.mem_filter.mp h).2
  cases e : H.get? b with
  | none => rw [e] at this; cases this
  | some o => exact ⟨o, rfl⟩

theorem map_walk {m T I f : Addr} {fp : List Addr} {ss : List Str} {n : Nat} {PD : Nat → Value → Prop} {StD : Nat → Heap → Prop} (hF : FspAt prog w W H f) (rm : Room A 2) (D : Draws prog w A.in1 I fp n PD StD) (hn : n = ss.length)
    (hP : ∀ i v, PD i v → ∃ x t, ss[i]? = some x ∧ v = .str x t ∧ x.length ≤ sizeLine) (hIm : I ≠ m) (hIT : I ≠ T) (hIH : H.get? I = none) (hIfp : I ∈ fp) :
    WalksS prog w A m ([m, T, I] ++ fp ++ held H) [I] (fun a b => b = a) n (fun i v => ∃ x t, ss[i]? = some x ∧ v = .str x t ∧ x.length ≤ sizeLine)
      (fun i s => IsMap s.heap m T f ∧ s.heap.get? T = some { cls := .type "tuple", data := .seq #[.ref I] } ∧ StD i s.heap ∧ Grow H s.heap) where
  sub := fun b hb => by simp at hb; subst hb; simp
  grefl := fun uu1 => rfl
  gtrans := fun uu1 uu2 uu3 h1 h2 => h2.trans h1
  frame := fun i s h' tk st uu1 hk => by
    refine e0_4 (st) fun a b c d => ?_
    exact ⟨hk _ (by simp) _ a, hk _ (by simp) _ b, D.frame i _ _ c fun x hx o e => hk x (by simp [hx]) o e, fun x o e => hk x (by simp [mem_held e]) o (d x o e)⟩
  item := fun i s Q E hi st hQ => by
    refine e0_4 (st) fun a b c d => ?_
    refine wpAny_with_toks (Nat.le_refl s.toks) (pyNext_map_item a b D c hi hIm fun x h' tk E' hPx st' hs' => ?_)
    refine e2_3 (hP i x hPx) fun y t hy ze28 hl => ?_; subst ze28
    have gH : Grow H h' := fun b' o e => hs'.extBut b' o (by rintro rfl; exact nsm hIH e) (d b' o e)
    refine hF A.in1 { s with heap := h', toks := tk } y t _ _ ⟨rm.handled, by have := rm.depth; show A.depth + 1 < 900; lia, by have := rm.units; show A.units + 1 + 8 * 1 + 128 < cLine; lia⟩ gH hl fun h2 tk2 t2 g2 htk => ?_
    refine hQ (.str y t2) _ ⟨y, t2, hy, rfl, hl⟩ ⟨g2 _ _ ((hs'.2 _ (Ne.symm hIm)).trans a), g2 _ _ ((hs'.2 _ (Ne.symm hIT)).trans b), D.frame _ _ _ st' fun x uu1 o e => g2 _ _ e, gH.trans g2⟩ ⟨fun b' o hb e => g2 _ _ (hs'.extBut b' o (fun z => hb (by simp [z])) e), rfl, rfl, rfl, htk⟩
  done := fun s Q E st hQ => by
    refine e0_4 (st) fun a b c d => ?_
    exact pyNext_map_end a b D c fun h' he => hQ _ ⟨fun b' o hb e => he b' o (fun z => hb (by simp [z])) e, rfl, rfl, rfl, Nat.le_refl _⟩
  self := fun i s Q E st hQ => pyIter_map st.1 hQ

set_option tactic.hygienic true in
theorem map_ok {f : Addr} (hf : W.mg (Str.ofString "fspath") = some (.ref f)) (hF : FspAt prog w W H f) (n : Nat) : MapOk prog w W H (n + 3) := by
  refine ⟨f, hf, fun A s v x ds ss ex Q E rm g old r hx hs hQ => ?_⟩
  have rm3 : Room A.in1.in1.in1 2 := ⟨rm.handled, by have := rm.depth; show A.depth + 2 < 900; lia, by have := rm.units; show A.units + 1 + 1 + 1 + 8 * 2 + 128 < cLine; lia⟩
  have hds := strsOf_eq hs
  have hH : ∀ a, s.heap.objs.size ≤ a → H.get? a = none := fun a ha => by
    cases e : H.get? a with
    | none => rfl
    | some o => exact absurd (Heap.lt_size (g a o e)) (Nat.not_lt.mpr ha)
  -- what comes once the map is made
  have rest : ∀ (o : Obj) (vs : List Value) (h' : Heap) (T m I : Addr) (fp : List Addr) (PD : Nat → Value → Prop) (StD : Nat → Heap → Prop), T = s.heap.objs.size + 1 → m = s.heap.objs.size + 2 → I = s.heap.objs.size → IsMap h' m T f → h'.get? T = some { cls := .type "tuple", data := .seq #[.ref I] } → Grow (s.heap.push o) h' → h'.objs.size = s.heap.objs.size + 3 →
      RepAll s.heap ex vs ds → ds.length ≤ sizeLine → Draws prog w A.in1.in1.in1.in1 I fp ds.length PD StD → (∀ i v, PD i v → vs[i]? = some v) → StD 0 h' → I ∈ fp → (∀ b ∈ fp, b < h'.objs.size) → wpAny (model prog w) A (call (.type "tuple") [.ref m]) Q E { s with heap := h' } := by
    intro o vs h' T m I fp PD StD eT em eI hm hT gr hz rs hl D hPD st0 hIfp hfp
    subst eT; subst em; subst eI
    have G1 : Grow s.heap h' := (Grow.push _ _).trans gr
    have Wk := map_walk (A := A.in1.in1.in1) (ss := ss) (m := s.heap.objs.size + 2) (T := s.heap.objs.size + 1) hF rm3 D (by rw [hds, List.length_map]) (fun i v hp => by
      refine e1_2 (rs.getV (hPD i v hp)) fun d hd rv => ?_
      rw [hds, List.getElem?_map] at hd
      cases hsi : ss[i]? with
      | none => rw [hsi] at hd; cases hd
      | some y =>
        rw [hsi] at hd; simp at hd; subst hd
        cases rv with
        | str _ t hl => exact ⟨y, t, rfl, rfl, hl⟩) (Nat.ne_of_lt (Nat.lt_succ_of_lt (Nat.lt_succ_self _))) (Nat.ne_of_lt (Nat.lt_succ_self _)) (hH _ (Nat.le_refl _)) hIfp
    refine call_tuple_map (s := { s with heap := h' }) Wk (fun i s' st => ⟨_, st.1, rfl⟩) ⟨hm, hT, st0, g.trans G1⟩ (fun b hb => ?_) (by simp) (fun s' acc mv hacc => ?_) hl
    · simp only [List.mem_append, List.mem_cons, List.mem_nil_iff, or_false] at hb
      show b < h'.objs.size
      rcases hb with ((rfl | rfl | rfl) | hb) | hb
      · rw [hz]; exact Nat.lt_succ_self _
      · rw [hz]; exact Nat.lt_succ_of_lt (Nat.lt_succ_self _)
      · rw [hz]; exact Nat.lt_succ_of_lt (Nat.lt_succ_of_lt (Nat.lt_succ_self _))
      · exact hfp b hb
      · refine e1_1 (held_mem hb) fun o' e' => ?_
        exact Heap.lt_size (G1 _ _ (g _ _ e'))
    · have e1 : s' = { s with heap := s'.heap, toks := s'.toks } := by
        obtain ⟨h1, g1, d1, t1, o1⟩ := s'
        have := mv.gens; have := mv.drawn; have := mv.os
        dsimp only at *
        subst_vars
        rfl
      have G2 : Grow s.heap s'.heap := fun b o' e' => mv.heap b o' (by simp; rintro rfl; exact absurd (Heap.lt_size e') (Nat.lt_irrefl _)) (G1 _ _ e')
      have hrep : RepAll s'.heap ex acc.toList ds := by
        rw [hds]
        have key : ∀ (l : List Value) (ss : List Str), l.length = ss.length → (∀ (i : Nat) (v : Value), l[i]? = some v → ∃ x t, ss[i]? = some x ∧ v = Value.str x t ∧ x.length ≤ sizeLine) → RepAll s'.heap ex l (ss.map .str) := by
          intro l
          induction l with
          | nil => intro ss hl _; cases ss with | nil => exact .nil | cons _ _ => cases hl
          | cons v l ih =>
            intro ss hl hh
            cases ss with
            | nil => cases hl
            | cons y ss =>
              refine e2_3 (hh 0 v rfl) fun x t hx ze29 hxl => ?_; subst ze29
              simp at hx; subst hx
              exact .cons (.str _ _ hxl) (ih ss (by simpa using hl) fun i v hv => hh (i + 1) v hv)
        refine key _ _ (by have := hacc.1; rw [hds, List.length_map] at this; simpa using this) fun i v hv => hacc.2 i v (by simpa using hv)
      rw [e1]
      have gp := Grow.push s'.heap { cls := .type "tuple", data := .seq acc }
      have hsz : s'.heap.objs.size ∉ ex := fun hm => by
        refine e1_1 (old _ hm) fun o' e' => ?_
        exact Nat.lt_irrefl _ (Heap.lt_size (G2 _ _ e'))
      refine hQ _ _ s'.toks (G2.trans gp) (.tuple (vs := acc.toList) ⟨_, Heap.get?_push_size _ rfl, rfl, 0, by simp⟩ hsz hl (hrep.grow gp))
  cases r with
  | list ga hn hl rs =>
    rename_i a vs nn ds'
    cases hx
    have hlt := Heap.lt_size ga
    refine call_map (o := { cls := .type "list_iterator", data := .fields #[.ref a, .int 0 0] }) (fun prog w A Q E h => wpAny_pyIter_list (isList_of ga) h) fun h' T m eT em hm hT gr hz => ?_
    have D := Draws.list (prog := prog) (w := w) (A := A.in1.in1.in1.in1) rm.handled s.heap.objs.size a (Nat.ne_of_lt hlt) vs.toArray
    have esz : vs.toArray.size = ds.length := by rw [List.size_toArray, rs.length]
    rw [esz] at D
    refine rest _ vs h' T m _ _ _ _ eT em rfl hm hT gr hz rs hl D (fun i v hp => by simpa using hp) ⟨⟨_, gr _ _ (Heap.get?_push_size _ rfl), rfl, rfl⟩, isList_of (gr _ _ (Grow.push _ _ _ _ ga))⟩ (by simp) (fun b hb => ?_)
    simp at hb
    rcases hb with rfl | rfl
    · rw [hz]; exact Nat.lt_succ_of_lt (Nat.lt_succ_of_lt (Nat.lt_succ_self _))
    · exact Heap.lt_size (gr _ _ (Grow.push _ _ _ _ ga))
  | tuple ga hn hl rs =>
    rename_i a vs ds'
    cases hx
    refine e1_2 (id ga) fun oa ea ra => ?_
    have hlt := Heap.lt_size ea
    refine call_map (o := { cls := .type "tuple_iterator", data := .fields #[.ref a, .int 0 0] }) (fun prog w A Q E h => iter_tuple ga h) fun h' T m eT em hm hT gr hz => ?_
    have D := draws_tuple (prog := prog) (w := w) (A := A.in1.in1.in1.in1) rm.handled s.heap.objs.size a (Nat.ne_of_lt hlt) vs.toArray
    have esz : vs.toArray.size = ds.length := by rw [List.size_toArray, rs.length]
    rw [esz] at D
    refine rest _ vs h' T m _ _ _ _ eT em rfl hm hT gr hz rs hl D (fun i v hp => by simpa using hp) ⟨⟨_, gr _ _ (Heap.get?_push_size _ rfl), rfl, rfl⟩, ⟨oa, gr _ _ (Grow.push _ _ _ _ ea), ra⟩⟩ (by simp) (fun b hb => ?_)
    simp at hb
    rcases hb with rfl | rfl
    · rw [hz]; exact Nat.lt_succ_of_lt (Nat.lt_succ_of_lt (Nat.lt_succ_self _))
    · exact Heap.lt_size (gr _ _ (Grow.push _ _ _ _ ea))
  | _ => exact nos hx
end
end Mine
end

section
open PySem PySem.W PyProof.Rows
set_option maxRecDepth 100000

namespace Mine
set_option tactic.hygienic false
section
variable {prog : Program} {w : World} {W : Wh} {H : Heap} {K : Frag}

noncomputable def C0 : String → List PyData → Option PyData := fun _ _ => none
noncomputable def K0 : PyData → PyData → PyData → Option PyData := fun _ _ _ => none
noncomputable def K1 : PyData → PyData → PyData → Option PyData := cmpX bCompare

theorem cmp0_ok {C fI fC : Addr} (X : K.In H) (hC : W.cc = C) (hG : W.G = mainGlobals) (hB : W.B = builtinsNs) (hW : WdOk prog w W H) (h : clsB K C fI fC = true) (n : Nat) : CmpOk prog w W H K0 (n + 2) where
  cls := by
    refine e0_2 (clsB_of X h) fun a1 zz => ?_
    rw [hC]; exact mg_of X (hG ▸ hW.g) a1
  with_ := cmp_with X hC h
  make := fun A s v k ex L Q E rm g old rv hL hQ => cmp_make X hC hG hB hW.lim h A s v k ex L Q E rm g old rv hL hQ
  attr := cmp_attr X hC h
  meth := by
    obtain ⟨_, _, _, _, _, _, _, _, _, _, _, _, _, _, ⟨fd, o, body, D, hb⟩⟩ := clsB_of X h
    exact ⟨fC, o, fd, D.obj, D.data, cmp_meth X hC h, fun A s b k l r d vl vr ex L Q E e => by cases e⟩

set_option tactic.hygienic true in
theorem cmp1_ok {C fI fC : Addr} (X : K.In H) (hC : W.cc = C) (hG : W.G = mainGlobals) (hB : W.B = builtinsNs) (hW : WdOk prog w W H) (h : clsB K C fI fC = true) (hM : ∀ n, MapOk prog w W H (n + 3)) (n : Nat) : CmpOk prog w W H K1 (n + 4) where
  cls := (cmp0_ok X hC hG hB hW h n).cls
  with_ := cmp_with X hC h
  make := fun A s v k ex L Q E rm g old rv hL hQ => cmp_make (n := n + 2) X hC hG hB hW.lim h A s v k ex L Q E rm g old rv hL hQ
  attr := cmp_attr X hC h
  meth := by
    obtain ⟨_, _, _, _, _, _, _, _, _, _, _, _, _, _, ⟨fd, o, body, D, hb⟩⟩ := clsB_of X h
    refine ⟨fC, o, fd, D.obj, D.data, cmp_meth X hC h, fun A s b k l r d vl vr ex L Q E e rm g old cm rl rr hQ => ?_⟩
    have hpar := D.params
    unfold paramB at hpar
    simp only [Bool.and_eq_true, beq_iff_eq, decide_eq_true_eq, List.isEmpty_iff, Option.isNone_iff_eq_none] at hpar
    refine l9 (hpar) fun p1 p2 p3 p4 p5 p6 p7 p8 p9 => ?_
    have kinds : ∀ x ∈ ["self", "left", "right"].map Str.ofString, fd.scope.names.lookup x = some .local ∨ fd.scope.names.lookup x = some .cell := fun x hx => by
      refine e1_2 (List.mem_map.mp hx) fun p hpm ze22 => ?_; subst ze22
      exact sees_of (List.all_eq_true.mp p9 p (by simpa using hpm))
    have p7' : fd.params.vararg = none := by cases e : fd.params.vararg with | none => rfl | some z => rw [e] at p7; cases p7
    unfold K1 cmpX at e
    split at e
    · rename_i d' ρ' hev
      cases e
      have hW' := hW.up g
      have hS := Ss_all (C := C0) (K := K0) (n := n + 3) hW' (fun f ds d h => by cases h) ((cmp0_ok X hC hG hB hW h (n + 1)).up g) ((hM n).up g) bCompare
      refine wpAny_call (run_any (W := W) (n := n + 3) (names := ["self", "left", "right"].map Str.ofString) (ρ := upd (upd (upd (fun _ => .no) "self" (.cmp k)) "left" (.val l)) "right" (.val r)) (ex := ex)
        (g _ _ D.obj) D.data D.body_ D.closure (D.code.keeps g) D.scope p1 p2 p4 p7' p6 p8 rfl kinds (by rw [hG]; exact D.g) (by rw [hB]; exact D.b) D.defaults hW'.lim
        (fun env => ⟨rm.handled, by have := rm.depth; show A.depth + 1 + (n + 3) < 900; lia, by have := rm.units; show A.units + 3 + 8 * (n + 3) + 128 < cLine; lia⟩) (by have := rm.depth; lia) old (fun h1 L1 g1 hL1 x => ?_) (fun x ds => ?_)
        fun A' env h2 tk2 E' cx hscope hLoc N => ?_)
      · rw [names3]
        by_cases e1 : x = "right"
        · subst e1
          simp only [upd, if_true]
          exact ⟨vr, rfl, rr.grow g1⟩
        · have e1' : Str.ofString x ≠ Str.ofString "right" := fun z => e1 (ofString_inj z)
          by_cases e2 : x = "left"
          · subst e2
            simp only [upd, if_neg e1, if_true, if_neg e1']
            exact ⟨vl, rfl, rl.grow g1⟩
          · have e2' : Str.ofString x ≠ Str.ofString "left" := fun z => e2 (ofString_inj z)
            by_cases e3 : x = "self"
            · subst e3
              simp only [upd, if_neg e1, if_neg e2, if_true, if_neg e1', if_neg e2']
              refine e5_4 (cm) fun dx hs t nn u k1 k2 k3 k4 => ?_
              refine ⟨b, rfl, dx, hs, t, nn, u, g1 _ _ k1, g1 _ _ k2, ?_, k4.grow g1⟩
              rintro rfl
              exact nsm hL1 k2
            · simp only [upd, if_neg e1, if_neg e2, if_neg e3]; trivial
      · by_cases e1 : x = "right"
        · simp [upd, e1]
        · by_cases e2 : x = "left"
          · simp [upd, e2]
          · by_cases e3 : x = "self"
            · simp [upd, e3]
            · simp [upd, e1, e2, e3]
      · refine hS A' env ex [] _ ρ' _ body (.ret d) _ _ cx (hscope ▸ hb) hev fun h3 tk3 own' fl st3 c3 n3 f => ?_
        cases fl with
        | ret v => exact hQ v h3 tk3 st3.grow (f.less fun a ha => List.mem_append.mpr (.inr ha))
        | _ => exact f.elim
    · exact nos e
end
end Mine
end

section
open PySem PySem.W PyProof.Rows
set_option maxRecDepth 100000
set_option maxHeartbeats 0
namespace Mine
set_option tactic.hygienic false

theorem rep_ints {h : Heap} {P : Params} : ∀ {vs : List Value} {ns : List Int}, WellAll P h vs (ofPys (ns.map PyData.int)) → RepAll h [] vs (ns.map PyData.int)
  | _, [], .nil => .nil
  | _, n :: ns, .cons a r => by
    cases a with
    | int _ t => exact .cons (.int _ _) (rep_ints r)

set_option tactic.hygienic true in
theorem mem_lookup {β : Type} {f : String} {b : β} : ∀ {l : List (String × β)}, l.lookup f = some b → (f, b) ∈ l
  | [], h => by cases h
  | (g, c) :: l, h => by
    rw [List.lookup_cons] at h
    split at h
    · rename_i e
      cases h
      rw [eq_of_beq e]; exact .head _
    · exact .tail _ (mem_lookup h)


theorem bt_of {K : Frag} {H : Heap} {mg mb : Str → Option Value} (X : K.In H) (g : H.Ns mainGlobals mg) (b : ∀ x : Str, x ≠ Str.ofString "__name__" → mb x = bootBuiltins x) (n : String) (h1 : nsIn K mainGlobals (Str.ofString n) = some none)
    (h2 : Str.ofString n ≠ Str.ofString "__name__") {v : Value} (h3 : bootBuiltins (Str.ofString n) = some v) : mg (Str.ofString n) = none ∧ mb (Str.ofString n) = some v :=
  ⟨mg_none_of X g h1, (b _ h2).trans h3⟩

/-- what is looked up in the written part of the head's heap -/
noncomputable def namesB1 (K : Frag) : Bool := (biNames ++ ["range", "sorted", "enumerate", "map", "isinstance", "bytes", "type", "issubclass"]).all fun n => nsIn K mainGlobals (Str.ofString n) == some none
noncomputable def headB (K : Frag) : Bool := namesB1 K && (tabX.all fun p => defB K p.1 p.2) && clsB K 172 162 169 && fspB K

theorem core {prog : Program} {w : World} {K : Frag} {H : Heap} {mg mb : Str → Option Value} (X : K.In H) (g : H.Ns mainGlobals mg) (b : H.Ns builtinsNs mb) (lim : H.NoLimit) (hb : ∀ x : Str, x ≠ Str.ofString "__name__" → mb x = bootBuiltins x) (h : headB K = true) :
    CallOk prog w ⟨mainGlobals, builtinsNs, mg, mb, 172⟩ H (callX tabOf K1 12) 16 := by
  unfold headB at h
  simp only [Bool.and_eq_true] at h
  refine l4 (h) fun h0 h1 h2 h3 => ?_
  have hn : ∀ n ∈ (biNames ++ ["range", "sorted", "enumerate", "map", "isinstance", "bytes", "type", "issubclass"]), nsIn K mainGlobals (Str.ofString n) = some none := fun n hn => by
    have := List.all_eq_true.mp h0 n hn
    exact eq_of_beq this
  have W' : WdOk prog w ⟨mainGlobals, builtinsNs, mg, mb, 172⟩ H := by
    refine ⟨g, b, lim, fun f hf => ?_, ?_, ?_, ?_, ?_, ?_, ?_⟩
    · have hf' : f ∈ (biNames ++ ["range", "sorted", "enumerate", "map", "isinstance", "bytes", "type", "issubclass"]) := List.mem_append.mpr (.inl hf)
      simp only [biNames, List.mem_cons, List.not_mem_nil, or_false] at hf
      rcases hf with rfl | rfl | rfl | rfl | rfl | rfl | rfl | rfl <;> exact bt_of X g hb _ (hn _ hf') (by decide +kernel) (by kernel_rfl)
    · exact bt_of X g hb _ (hn _ (by simp)) (by decide +kernel) (by kernel_rfl)
    · exact bt_of X g hb _ (hn _ (by simp)) (by decide +kernel) (by kernel_rfl)
    · exact bt_of X g hb _ (hn _ (by simp)) (by decide +kernel) (by kernel_rfl)
    · exact bt_of X g hb _ (hn _ (by simp)) (by decide +kernel) (by kernel_rfl)
    · exact bt_of X g hb _ (hn _ (by simp)) (by decide +kernel) (by kernel_rfl)
    · exact bt_of X g hb _ (hn _ (by simp)) (by decide +kernel) (by kernel_rfl)
  have hF := fsp_ok X W' rfl rfl (bt_of X g hb "type" (hn _ (by simp)) (by decide +kernel) (by kernel_rfl)) (bt_of X g hb "issubclass" (hn _ (by simp)) (by decide +kernel) (by kernel_rfl)) h3
  have hM : ∀ n, MapOk prog w ⟨mainGlobals, builtinsNs, mg, mb, 172⟩ H (n + 3) := fun n => by
    refine e3_4 (hF) fun a o fd h1 h2 h3 h4 => ?_
    exact map_ok h1 h4 n
  exact calls_ok (T := tabOf) (K := K1) (fun f fx hf => by
      have hm : (f, fx) ∈ tabX := by
        unfold tabOf at hf
        exact mem_lookup hf
      refine ⟨?_, defB_at X g rfl rfl (List.all_eq_true.mp h1 _ hm)⟩
      have : (tabX.all fun p => decide (p.2.ps.length < 1000)) = true := by decide +kernel
      exact of_decide_eq_true (List.all_eq_true.mp this _ hm)) W' (fun n => cmp1_ok X rfl rfl rfl W' h2 hM n) (fun n => hM (n + 1)) hF 12 (by decide)
end Mine
end

section
open PySem PySem.W PyProof.Rows

namespace Mine
set_option tactic.hygienic false

/-! ### texts as lists of code points -/
noncomputable def cl (x : Str) : List Nat := x.cps.toList
theorem cl_inj {x y : Str} (h : cl x = cl y) : x = y := Str.ext' (Array.toList_inj.mp h)
theorem cl_append (x y : Str) : cl (x ++ y) = cl x ++ cl y := by
  show (x ++ y).cps.toList = _
  rw [Str.cps_append, Array.toList_append]; rfl
theorem cl_len (x : Str) : (cl x).length = x.length := by simp [cl, Str.length]
noncomputable def sl : Str := ⟨#[47]⟩
theorem sl_of : Str.ofString "/" = sl := by decide +kernel
theorem cl_sl : cl sl = [47] := rfl
theorem cl_mk (l : List Nat) : cl ⟨l.toArray⟩ = l := rfl
theorem mk_cl (x : Str) : (⟨(cl x).toArray⟩ : Str) = x := by cases x; simp [cl]

noncomputable def Free (x : Str) : Prop := 47 ∉ cl x

/-- glueing with a slash, on lists -/
noncomputable def jl : List Str → List Nat
  | [] => []
  | [x] => cl x
  | x :: y :: r => cl x ++ 47 :: jl (y :: r)

theorem cl_join : ∀ ps : List Str, cl (Str.join sl ps) = jl ps
  | [] => rfl
  | [x] => rfl
  | x :: y :: r => by
    show cl (x ++ sl ++ Str.join sl (y :: r)) = cl x ++ 47 :: jl (y :: r)
    rw [cl_append, cl_append, cl_join (y :: r), cl_sl, List.append_assoc]; rfl
theorem txt_join (ps : List Str) : cl (Txt.join sl ps) = jl ps := by
  show cl (Builtin.Str.glued sl ps) = _
  rw [StrLaws.glued_eq_join, cl_join]

theorem cut_eq : ∀ {a b : List Nat} {r q : List Nat}, 47 ∉ a → 47 ∉ b → a ++ 47 :: r = b ++ 47 :: q → a = b ∧ r = q
  | [], [], _, _, _, _, h => ⟨rfl, by simpa using h⟩
  | [], y :: b, _, _, _, hb, h => by
    simp at h
    exact absurd h.1 (fun e => hb (by simp [e]))
  | x :: a, [], _, _, ha, _, h => by
    simp at h
    exact absurd h.1 (fun e => ha (by simp [e]))
  | x :: a, y :: b, _, _, ha, hb, h => by
    simp at h ha hb
    refine e0_2 (cut_eq ha.2 hb.2 h.2) fun e1 e2 => ?_
    exact ⟨by rw [h.1, e1], e2⟩

theorem jl_inj : ∀ {ps qs : List Str}, ps ≠ [] → qs ≠ [] → (∀ p ∈ ps, Free p) → (∀ q ∈ qs, Free q) → jl ps = jl qs → ps = qs
  | [], _, h, _, _, _, _ => absurd rfl h
  | _, [], _, h, _, _, _ => absurd rfl h
  | [x], [y], _, _, _, _, h => by rw [cl_inj (h : cl x = cl y)]
  | [x], y :: z :: r, _, _, fp, _, h => by
    have h' : cl x = cl y ++ 47 :: jl (z :: r) := h
    exact absurd (by rw [h']; simp : (47 : Nat) ∈ cl x) (fp x (by simp))
  | x :: w :: t, [y], _, _, _, fq, h => by
    have h' : cl x ++ 47 :: jl (w :: t) = cl y := h
    exact absurd (by rw [← h']; simp : (47 : Nat) ∈ cl y) (fq y (by simp))
  | x :: w :: t, y :: z :: r, _, _, fp, fq, h => by
    have h' : cl x ++ 47 :: jl (w :: t) = cl y ++ 47 :: jl (z :: r) := h
    refine e0_2 (cut_eq (fp x (by simp)) (fq y (by simp)) h') fun e1 e2 => ?_
    rw [cl_inj e1, jl_inj (by simp) (by simp) (fun p hp => fp p (by simp [List.mem_cons.mp hp])) (fun p hp => fq p (by simp [List.mem_cons.mp hp])) e2]

theorem split_ne (x : Str) : Txt.split x sl ≠ [] := by
  unfold Txt.split
  split
  · simp
  · split
    · simp
    · rw [StrLaws.partsBetween_eq]
      refine e2_1 (StrLaws.partsFrom_ne x sl.length 0 (Builtin.Str.occurrences x sl 0 x.length (x.length + 1))) fun p r e => ?_
      rw [e]; simp
theorem split_free (x : Str) : ∀ p ∈ Txt.split x sl, Free p := StrLaws.split_free x 47
theorem jl_split (x : Str) : jl (Txt.split x sl) = cl x := by rw [← cl_join, StrLaws.join_split]

theorem split_of {x : Str} {ps : List Str} (hne : ps ≠ []) (hf : ∀ p ∈ ps, Free p) (h : cl x = jl ps) : Txt.split x sl = ps :=
  jl_inj (split_ne x) hne (split_free x) hf (by rw [jl_split, h])

theorem jl_append : ∀ {ps qs : List Str}, ps ≠ [] → qs ≠ [] → jl (ps ++ qs) = jl ps ++ 47 :: jl qs
  | [], _, h, _ => absurd rfl h
  | [x], y :: r, _, _ => rfl
  | x :: w :: t, qs, _, hq => by
    have := jl_append (ps := w :: t) (qs := qs) (by simp) hq
    show cl x ++ 47 :: jl (w :: t ++ qs) = (cl x ++ 47 :: jl (w :: t)) ++ 47 :: jl qs
    rw [this]; simp
  | [_], [], _, h => absurd rfl h

theorem split_cat {x a b : Str} (h : cl x = cl a ++ 47 :: cl b) : Txt.split x sl = Txt.split a sl ++ Txt.split b sl := by
  refine split_of (by simp [split_ne]) (fun p hp => ?_) ?_
  · rcases List.mem_append.mp hp with hp | hp
    · exact split_free a p hp
    · exact split_free b p hp
  · rw [jl_append (split_ne a) (split_ne b), jl_split, jl_split, h]

theorem split_one {x : Str} (h : Free x) : Txt.split x sl = [x] := split_of (by simp) (by simpa using h) rfl

/-- the pieces that count -/
noncomputable def dotS : Str := ⟨#[46]⟩
noncomputable def ddS : Str := ⟨#[46, 46]⟩
theorem dot_of : Str.ofString "." = dotS := by decide +kernel
theorem dd_of : Str.ofString ".." = ddS := by decide +kernel
theorem emp_of : Str.ofString "" = ⟨#[]⟩ := by decide +kernel
noncomputable def keepC (c : Str) : Bool := c.length != 0 && !(c == dotS)
noncomputable def comps (x : Str) : List Str := (Txt.split x sl).filter keepC

theorem comps_cat {x a b : Str} (h : cl x = cl a ++ 47 :: cl b) : comps x = comps a ++ comps b := by
  unfold comps
  rw [split_cat h, List.filter_append]
theorem comps_nil : comps ⟨#[]⟩ = [] := by
  unfold comps
  rw [split_one (by simp [Free, cl])]
  rfl

/-- starting with the slash, ending with it -/
theorem starts_sl (x : Str) : Txt.startswith x sl = ((cl x).head? == some 47) := by
  unfold Txt.startswith
  rw [StrLaws.subAt_eq]
  show (decide (0 + 1 ≤ x.length) && ((cl x).drop 0).take 1 == [47]) = _
  rw [← cl_len]
  cases cl x with
  | nil => rfl
  | cons a r => simp
theorem ends_sl (x : Str) : Txt.endswith x sl = ((cl x).getLast? == some 47) := by
  unfold Txt.endswith
  rw [StrLaws.subAt_eq]
  show (decide (0 + 1 ≤ x.length) && ((cl x).drop (x.length - 1)).take 1 == [47]) = _
  rw [← cl_len]
  rcases List.eq_nil_or_concat (cl x) with h | ⟨l, a, h⟩
  · rw [h]; rfl
  · rw [h]; simp

theorem rstrip_sl (x : Str) : cl (Txt.rstripChars x sl) = ((cl x).reverse.dropWhile (· == 47)).reverse := by
  unfold Txt.rstripChars
  rw [PyProof.Rows.stripBy_eq, cl, StrLaws.strSub_toList]
  have e1 : stripLo sl.cps.contains false x = 0 := rfl
  rw [e1]
  have e2 : stripHi sl.cps.contains true x 0 = x.length - ((cl x).reverse.takeWhile (fun c => sl.cps.contains c)).length := by
    unfold stripHi; rw [if_pos rfl, List.drop_zero]; rfl
  have e3 : (fun c : Nat => sl.cps.contains c) = fun c => c == 47 := by
    funext c
    rw [Bool.eq_iff_iff]; simp [sl]
  rw [e2, e3, ← cl_len, List.drop_zero, Nat.sub_zero]
  show (cl x).take _ = _
  generalize cl x = l
  have h := List.takeWhile_append_dropWhile (p := (· == 47)) (l := l.reverse)
  have h2 : l = ((l.reverse.dropWhile (· == 47)).reverse) ++ (l.reverse.takeWhile (· == 47)).reverse := by
    rw [← List.reverse_append, h, List.reverse_reverse]
  have h3 : l.length - (l.reverse.takeWhile (· == 47)).length = (l.reverse.dropWhile (· == 47)).reverse.length := by
    have := congrArg List.length h
    rw [List.length_append, List.length_reverse] at this
    rw [List.length_reverse]; lia
  rw [h3]
  conv => lhs; rw [h2]
  rw [List.take_left']
  simp

/-- the last slash -/
noncomputable def lastBody (x : Str) (i : Nat) (st : Option Nat) : Id (ForInStep (Option Nat)) :=
  if i + sl.length ≤ x.length ∧ Builtin.Str.subAt x sl i = true then pure (ForInStep.yield (some i)) else pure (ForInStep.yield st)
theorem last_eq (x : Str) : Builtin.Str.lastOccurrence x sl 0 x.length = (forIn (List.range' 0 (x.length + 1)) none (lastBody x)).run := by
  unfold Builtin.Str.lastOccurrence lastBody
  simp

set_option tactic.hygienic true in
theorem last_run (x : Str) (k : Nat) (hk : (cl x)[k]? = some 47) (hn : ∀ j, k < j → (cl x)[j]? ≠ some 47) : ∀ (m cur : Nat) (st : Option Nat), (k < cur → st = some k) → k < cur + m →
    (forIn (List.range' cur m) st (lastBody x)).run = some k
  | 0, cur, st, h, h2 => by
    have : k < cur := by lia
    rw [h this]; rfl
  | m + 1, cur, st, h, h2 => by
    rw [List.range'_succ, List.forIn_cons]
    unfold lastBody
    have e := StrLaws.subAt_one x 47 cur
    split
    · rename_i hc
      refine last_run x k hk hn m (cur + 1) (some cur) (fun h3 => ?_) (by lia)
      have hcur : (cl x)[cur]? = some 47 := e.mp hc
      by_cases h4 : k < cur
      · exact absurd hcur (hn cur h4)
      · congr 1; lia
    · rename_i hc
      refine last_run x k hk hn m (cur + 1) st (fun h3 => ?_) (by lia)
      by_cases h4 : k < cur
      · exact h h4
      · have : k = cur := by lia
        subst this
        exact absurd (e.mpr hk) hc

theorem rfind_sl {x : Str} {a b : List Nat} (h : cl x = a ++ 47 :: b) (hb : 47 ∉ b) : Txt.rfind x sl = (a.length : Int) := by
  unfold Txt.rfind
  rw [last_eq]
  rw [last_run x a.length (by rw [h]; simp) (fun j hj e => by
    rw [h, List.getElem?_append_right (by lia)] at e
    obtain ⟨d, hd⟩ : ∃ d, j - a.length = d + 1 := ⟨j - a.length - 1, by lia⟩
    rw [hd, List.getElem?_cons_succ] at e
    exact hb (List.mem_of_getElem? e)) (x.length + 1) 0 none (fun z => by lia) (by
      have := congrArg List.length h
      rw [cl_len] at this
      simp at this; lia)]

end Mine
end

section
open PySem PySem.W PyProof.Rows
namespace Mine
set_option tactic.hygienic false

/-! ### calls of the evaluator -/
theorem call_of {T : String → Option FX} {K : PyData → PyData → PyData → Option PyData} {n : Nat} {f : String} {fx : FX} {args : List PyData} {ρ : Ro} {d : PyData} (hf : f ≠ "fspath") (ht : T f = some fx)
    (hb : bindP fx.ps fx.va args (fun _ => .no) = some ρ) (he : ∃ ρ', exSs (callX T K n) K fx.body ρ = some (.ret d, ρ')) : callX T K (n + 1) f args = some d := by
  refine e1_1 (he) fun ρ' he => ?_
  simp only [callX_succ, if_neg hf, ht, hb, he]
theorem call_fsp {T : String → Option FX} {K : PyData → PyData → PyData → Option PyData} {n : Nat} {x : Str} : callX T K (n + 1) "fspath" [.str x] = some (.str x) := by
  simp [callX_succ]

variable {K : PyData → PyData → PyData → Option PyData}
theorem get_sep (n : Nat) (x : Str) : callX tabOf K (n + 1) "_get_sep" [.str x] = some (.str sl) := by
  refine call_of (by decide) (show tabOf "_get_sep" = some fGetSep from rfl) rfl ?_
  simp [fGetSep, exSs_cons, exS_ite, exS_ret, evT_isBytes, evX_var, evX_str, evX_isBytes, upd, truthyD_bool, sl_of]

/-! ### names and paths -/
noncomputable def Nm (x : Str) : Prop := cl x ≠ [] ∧ Free x ∧ x ≠ dotS ∧ PyData.strOk x = true ∧ x.length ≤ 2
theorem Nm.keep {x : Str} (h : Nm x) : keepC x = true := by
  unfold keepC
  have h1 : x.length ≠ 0 := fun e => h.1 (List.eq_nil_of_length_eq_zero (by rw [cl_len]; exact e))
  simp [h1, h.2.2.1]

noncomputable def P (ns : List Str) : Str := sl ++ Txt.join sl ns
theorem cl_P (ns : List Str) : cl (P ns) = 47 :: jl ns := by
  unfold P
  rw [cl_append, txt_join]; rfl
theorem P_nil : P [] = sl := cl_inj (by rw [cl_P]; rfl)

theorem P_eq_cat (ns : List Str) : cl (P ns) = cl ⟨#[]⟩ ++ 47 :: cl (Txt.join sl ns) := by rw [cl_P, txt_join]; rfl

theorem filter_names : ∀ {ns : List Str}, (∀ n ∈ ns, Nm n) → ns.filter keepC = ns
  | [], _ => rfl
  | n :: r, h => by
    rw [List.filter_cons_of_pos (h n (by simp)).keep, filter_names fun m hm => h m (by simp [hm])]

theorem comps_join {x : Str} {ns : List Str} (hx : cl x = jl ns) (h : ∀ n ∈ ns, Nm n) : comps x = ns := by
  by_cases e : ns = []
  · subst e
    have : x = ⟨#[]⟩ := cl_inj hx
    rw [this, comps_nil]
  · unfold comps
    rw [split_of e (fun p hp => (h p hp).2.1) hx, filter_names h]

theorem comps_P {ns : List Str} (h : ∀ n ∈ ns, Nm n) : comps (P ns) = ns := by
  rw [comps_cat (P_eq_cat ns), comps_nil, List.nil_append, comps_join (txt_join ns) h]

theorem P_inj {ns ms : List Str} (h : ∀ n ∈ ns, Nm n) (h' : ∀ n ∈ ms, Nm n) (e : P ns = P ms) : ns = ms := by
  rw [← comps_P h, ← comps_P h', e]

theorem P_snoc (ns : List Str) (n : Str) : cl (P (ns ++ [n])) = (if ns = [] then [] else cl (P ns)) ++ 47 :: cl n := by
  by_cases e : ns = []
  · subst e; rw [cl_P]; rfl
  · rw [if_neg e, cl_P, cl_P, jl_append e (by simp)]; rfl

theorem P_getLast {ns : List Str} (e : ns ≠ []) (h : ∀ n ∈ ns, Nm n) : (cl (P ns)).getLast? ≠ some 47 := by
  refine e2_1 (List.eq_nil_or_concat ns |>.resolve_left e) fun l n ze44 => ?_; subst ze44
  rw [List.concat_eq_append, P_snoc]
  have hn := h n (by simp)
  intro hh
  rw [List.getLast?_append, List.getLast?_cons] at hh
  cases e2 : (cl n).getLast? with
  | none => exact hn.1 (List.getLast?_eq_none_iff.mp e2)
  | some c =>
    rw [e2] at hh
    simp at hh
    subst hh
    exact hn.2.1 (List.mem_of_getLast? e2)

theorem P_len {ns : List Str} (h : ∀ n ∈ ns, Nm n) : (P ns).length ≤ 1 + 3 * ns.length := by
  rw [← cl_len, cl_P, List.length_cons]
  have : ∀ ms : List Str, (∀ n ∈ ms, Nm n) → (jl ms).length ≤ 3 * ms.length := by
    intro ms
    induction ms with
    | nil => intro _; simp [jl]
    | cons x r ih =>
      intro hm
      have hx := (hm x (by simp)).2.2.2.2
      rw [← cl_len] at hx
      cases r with
      | nil => simp [jl]; lia
      | cons y t =>
        have := ih fun n hn => hm n (by simp [List.mem_cons.mp hn])
        show (cl x ++ 47 :: jl (y :: t)).length ≤ _
        rw [List.length_append, List.length_cons]
        simp only [List.length_cons] at this ⊢
        lia
  have := this ns h
  lia

theorem strOk_cl {x : Str} : PyData.strOk x = true ↔ ∀ c ∈ cl x, c < 0x110000 := by
  unfold PyData.strOk
  rw [← Array.all_toList, List.all_eq_true]
  simp [cl]

theorem jl_ok : ∀ {ms : List Str}, (∀ n ∈ ms, PyData.strOk n = true) → ∀ c ∈ jl ms, c < 0x110000
  | [], _, _, hc => by cases hc
  | [x], h, c, hc => strOk_cl.mp (h x (by simp)) c hc
  | x :: y :: r, h, c, hc => by
    rcases List.mem_append.mp (show c ∈ cl x ++ 47 :: jl (y :: r) from hc) with h1 | h1
    · exact strOk_cl.mp (h x (by simp)) c h1
    · rcases List.mem_cons.mp h1 with rfl | h1
      · decide
      · exact jl_ok (fun n hn => h n (by simp [List.mem_cons.mp hn])) c h1
theorem P_ok {ns : List Str} (h : ∀ n ∈ ns, PyData.strOk n = true) : PyData.strOk (P ns) = true := by
  rw [strOk_cl, cl_P]
  intro c hc
  rcases List.mem_cons.mp hc with rfl | hc
  · decide
  · exact jl_ok h c hc

/-! ### plain equality -/
theorem eqv_ss (x y : Str) : PyData.eqv (.str x) (.str y) = decide (x = y) := by
  rw [PyData.eqv, Bool.eq_iff_iff]; simp
theorem eqvAll_ss : ∀ (xs ys : List Str), PyData.eqvAll (xs.map .str) (ys.map .str) = decide (xs = ys)
  | [], [] => rfl
  | [], _ :: _ => by simp [PyData.eqvAll]
  | _ :: _, [] => by simp [PyData.eqvAll]
  | x :: xs, y :: ys => by
    simp only [List.map_cons, PyData.eqvAll, eqv_ss, eqvAll_ss xs ys]
    rw [Bool.eq_iff_iff]; simp
theorem eqv_ll (xs ys : List Str) : PyData.eqv (.list (xs.map .str)) (.list (ys.map .str)) = decide (xs = ys) := by
  rw [PyData.eqv, eqvAll_ss]

mutual
theorem eqv_self : ∀ (n : Nat) (d : PyData), shal n d = true → PyData.eqv d d = true
  | _, .none, _ => by simp [PyData.eqv]
  | _, .bool _, _ => by simp [PyData.eqv]
  | _, .int _, _ => by simp [PyData.eqv]
  | _, .str _, _ => by simp [PyData.eqv]
  | n + 1, .list xs, h => by
    rw [PyData.eqv]
    exact eqvAll_self n xs fun x hx => by (first | rw [shal_none, List.all_eq_true] at h | rw [shal_bool, List.all_eq_true] at h | rw [shal_int, List.all_eq_true] at h | rw [shal_str, List.all_eq_true] at h | rw [shal_list, List.all_eq_true] at h | rw [shal_tuple, List.all_eq_true] at h); exact h x hx
  | n + 1, .tuple xs, h => by
    rw [PyData.eqv]
    exact eqvAll_self n xs fun x hx => by (first | rw [shal_none, List.all_eq_true] at h | rw [shal_bool, List.all_eq_true] at h | rw [shal_int, List.all_eq_true] at h | rw [shal_str, List.all_eq_true] at h | rw [shal_list, List.all_eq_true] at h | rw [shal_tuple, List.all_eq_true] at h); exact h x hx
  | 0, .list _, h => absurd h Bool.false_ne_true
  | 0, .tuple _, h => absurd h Bool.false_ne_true
  | 0, .dict _, h => absurd h Bool.false_ne_true
  | _ + 1, .dict _, h => absurd h Bool.false_ne_true
theorem eqvAll_self : ∀ (n : Nat) (xs : List PyData), (∀ x ∈ xs, shal n x = true) → PyData.eqvAll xs xs = true
  | _, [], _ => by simp [PyData.eqvAll]
  | n, x :: xs, h => by
    rw [PyData.eqvAll, eqv_self n x (h x (by simp)), eqvAll_self n xs fun y hy => h y (by simp [hy])]; rfl
end

theorem ne_self {d : PyData} (h : shal 4 d = true) : cmpD .ne d d = some (.bool false) := by
  simp only [cmpD_ne, h, Bool.and_self, if_true, eqv_self 4 d h]; rfl
theorem ne_ss {x y : Str} (hx : PyData.strOk x = true) (hy : PyData.strOk y = true) : cmpD .ne (.str x) (.str y) = some (.bool (decide (x ≠ y))) := by
  have h1 : shal 4 (.str x) = true := by simpa [shal_none, shal_bool, shal_int, shal_str, shal_list, shal_tuple] using hx
  have h2 : shal 4 (.str y) = true := by simpa [shal_none, shal_bool, shal_int, shal_str, shal_list, shal_tuple] using hy
  simp only [cmpD_ne, h1, h2, Bool.and_self, if_true, eqv_ss]
  congr 2
  rw [Bool.eq_iff_iff]; simp
theorem eq_ss {x y : Str} (hx : PyData.strOk x = true) (hy : PyData.strOk y = true) : cmpD .eq (.str x) (.str y) = some (.bool (decide (x = y))) := by
  have h1 : shal 4 (.str x) = true := by simpa [shal_none, shal_bool, shal_int, shal_str, shal_list, shal_tuple] using hx
  have h2 : shal 4 (.str y) = true := by simpa [shal_none, shal_bool, shal_int, shal_str, shal_list, shal_tuple] using hy
  simp only [cmpD_eq, h1, h2, Bool.and_self, if_true, eqv_ss]

end Mine
end

section
open PySem PySem.W PyProof.Rows
namespace Mine
set_option tactic.hygienic false
variable {K : PyData → PyData → PyData → Option PyData}

theorem clampD_nat (n k : Nat) : clampD n (k : Int) = min k n := by
  unfold clampD
  rw [if_neg (by lia)]; lia
theorem cut_to {α : Type} (l : List α) (k : Nat) : cutD l none (some (k : Int)) = l.take k := by
  simp only [cutD, clampD_nat, List.drop_zero, Nat.sub_zero]
  by_cases h : k ≤ l.length
  · rw [Nat.min_eq_left h]
  · rw [Nat.min_eq_right (by lia), List.take_of_length_le (by lia), List.take_of_length_le (by lia)]
theorem cut_from {α : Type} (l : List α) (k : Nat) : cutD l (some (k : Int)) none = l.drop k := by
  simp only [cutD, clampD_nat]
  by_cases h : k ≤ l.length
  · rw [Nat.min_eq_left h, List.take_of_length_le (by simp)]
  · rw [Nat.min_eq_right (by lia), List.drop_of_length_le (by lia), List.drop_of_length_le (by lia), List.take_nil]

theorem repL_sl (k : Nat) : repL k [47] = List.replicate k 47 := by
  unfold repL
  induction k with
  | zero => rfl
  | succ k ih => rw [List.replicate_succ, List.flatten_cons, ih]; rfl

theorem strOk_mk {l : List Nat} (h : ∀ c ∈ l, c < 0x110000) : PyData.strOk ⟨l.toArray⟩ = true := strOk_cl.mpr h

/-- what is left of the last slash, without slashes at its end -/
theorem head_step {C : String → List PyData → Option PyData} {ns : List Str} (h : ∀ n ∈ ns, Nm n) (hl : ns.length ≤ 100) {x : Str} (hx : cl x = (if ns = [] then [] else cl (P ns)) ++ [47]) {ρ : Ro}
    (h1 : ρ "head" = .val (.str x)) (h2 : ρ "sep" = .val (.str sl)) :
    ∃ ρ', exS C K (.ite (.bop true [v "head", .cmp .ne (v "head") (.bin .mul (v "sep") (.bi "len" [v "head"]))]) [.assign "head" (.meth "rstrip" (v "head") [v "sep"])] []) ρ = some (.next, ρ') ∧
      ρ' "head" = .val (.str (P ns)) ∧ ∀ y, y ≠ "head" → ρ' y = ρ y := by
  have hxl : x.length ≤ 1000 := by
    rw [← cl_len, hx]
    have := P_len h
    rw [← cl_len] at this
    split <;> simp <;> lia
  have hxn : x.length ≠ 0 := by
    rw [← cl_len, hx]; simp
  have hok : ∀ c ∈ cl x, c < 0x110000 := by
    rw [hx]
    intro c hc
    rcases List.mem_append.mp hc with hc | hc
    · split at hc
      · cases hc
      · exact strOk_cl.mp (P_ok fun n hn => (h n hn).2.2.2.1) c hc
    · simp at hc; subst hc; decide
  have hmul : binD .mul (.str sl) (.int (x.length : Nat)) = some (.str ⟨(List.replicate x.length 47).toArray⟩) := by
    have e : sl.length = 1 := rfl
    have e2 : sl.cps.toList = [47] := rfl
    simp only [binD_mulS, e, e2, Int.toNat_natCast, repL_sl]
    rw [if_pos (by simp; lia)]
  have hne : cmpD .ne (.str x) (.str ⟨(List.replicate x.length 47).toArray⟩) = some (.bool (decide (ns ≠ []))) := by
    rw [ne_ss (strOk_cl.mpr hok) (strOk_mk fun c hc => by rw [(List.mem_replicate.mp hc).2]; decide)]
    congr 2
    rw [Bool.eq_iff_iff, decide_eq_true_eq, decide_eq_true_eq]
    refine not_congr ⟨fun e => ?_, fun e => ?_⟩
    · refine Classical.byContradiction fun hns => ?_
      rw [if_neg hns] at hx
      have e' : cl (P ns) ++ [47] = List.replicate x.length 47 := by rw [← hx]; exact congrArg cl e
      have hp := P_getLast hns h
      cases e3 : (cl (P ns)).getLast? with
      | none =>
        rw [List.getLast?_eq_none_iff, cl_P] at e3
        cases e3
      | some c =>
        have hm := List.mem_of_getLast? e3
        have : c ∈ List.replicate x.length 47 := by rw [← e']; simp [hm]
        have := (List.mem_replicate.mp this).2
        subst this
        exact hp e3
    · subst e
      apply cl_inj
      rw [if_pos rfl] at hx
      show cl x = List.replicate x.length 47
      rw [← cl_len, hx]; rfl
  have ev : evT C K ρ (.bop true [v "head", .cmp .ne (v "head") (.bin .mul (v "sep") (.bi "len" [v "head"]))]) (evX C K ρ (.bop true [v "head", .cmp .ne (v "head") (.bin .mul (v "sep") (.bi "len" [v "head"]))])) = some (decide (ns ≠ [])) := by
    have hb : biD "len" [.str x] = some (.int (x.length : Nat)) := rfl
    simp only [evT_bop, evT_var, evT_cmp, evTs_nil, evTs_cons, evX_var, evX_bin, evX_cmp, evX_bop, evX_bi, evXs_nil, evXs_cons, v, h1, h2, truthyD_bool, truthyD_str, hb, hmul, hne]
    simp [hxn]
  by_cases e : ns = []
  · refine ⟨ρ, ?_, ?_, fun _ _ => rfl⟩
    · simp only [exS_ite, ev]
      simp [e, exSs_nil]
    · rw [h1]
      subst e
      congr 2
      apply cl_inj
      rw [hx, P_nil]; rfl
  · refine ⟨upd ρ "head" (.val (.str (Txt.rstripChars x sl))), ?_, ?_, fun y hy => by simp [upd, hy]⟩
    · have hm : methD "rstrip" (.str x) [.str sl] = some (.str (Txt.rstripChars x sl)) := by simp [methD_rstrip]
      simp only [exS_ite, ev]
      simp only [ne_eq, e, not_false_eq_true, decide_true, exSs_nil, exSs_cons, exS_assign, evX_var, evX_meth, evXs_nil, evXs_cons, v, h1, h2, hm]
    · simp only [upd, if_true]
      congr 2
      apply cl_inj
      rw [rstrip_sl, hx, if_neg e, List.reverse_append]
      show (List.dropWhile (fun c => c == 47) (47 :: (cl (P ns)).reverse)).reverse = _
      rw [List.dropWhile_cons_of_pos (by simp)]
      have hp := P_getLast e h
      rw [← List.head?_reverse] at hp
      have : List.dropWhile (fun c => c == 47) (cl (P ns)).reverse = (cl (P ns)).reverse := by
        cases e4 : (cl (P ns)).reverse with
        | nil => rfl
        | cons c t =>
          rw [e4] at hp
          rw [List.dropWhile_cons_of_neg]
          simpa using hp
      rw [this, List.reverse_reverse]

theorem P_snoc_parts (ns : List Str) (n : Str) : ∃ a, cl (P (ns ++ [n])) = a ++ 47 :: cl n ∧ a ++ [47] = (if ns = [] then [] else cl (P ns)) ++ [47] := ⟨_, P_snoc ns n, rfl⟩

/-! ### runs, statement by statement -/
noncomputable def Runs (C : String → List PyData → Option PyData) (K : PyData → PyData → PyData → Option PyData) (sts : List S) (ρ : Ro) (d : PyData) : Prop := ∃ ρ', exSs C K sts ρ = some (.ret d, ρ')
section
variable {C : String → List PyData → Option PyData} {st : S} {r : List S} {ρ ρ' : Ro} {d : PyData}
theorem Runs.next (h : exS C K st ρ = some (.next, ρ')) (k : Runs C K r ρ' d) : Runs C K (st :: r) ρ d := by
  refine e1_1 (k) fun ρ₂ k => ?_
  exact ⟨ρ₂, by (first | rw [exSs_nil, h] | rw [exSs_cons, h]); exact k⟩
theorem Runs.assign {x : String} {e : X} {y : PyData} (h : evX C K ρ e = some y) (k : Runs C K r (upd ρ x (.val y)) d) : Runs C K (.assign x e :: r) ρ d :=
  .next (by simp only [exS_assign, h]) k
theorem Runs.assignC {x : String} {e : X} {y : PyData} (h : evX C K ρ e = some y) (k : Runs C K r (upd ρ x (.val y)) d) : Runs C K (.assignC x e :: r) ρ d :=
  .next (by simp only [exS_assignC, h]) k
theorem Runs.ret {e : X} (h : evX C K ρ e = some d) : Runs C K (.ret e :: r) ρ d := ⟨ρ, by simp only [exSs_cons, exS_ret, h]⟩
end

theorem meth_rfind {x y : Str} : methD "rfind" (.str x) [.str y] = some (.int (Txt.rfind x y)) := by simp [methD_rfind]

theorem split_P (m : Nat) {ns : List Str} {n : Str} (h : ∀ n ∈ ns, Nm n) (hn : Nm n) (hl : ns.length ≤ 100) :
    callX tabOf K (m + 2) "split" [.str (P (ns ++ [n]))] = some (.tuple [.str (P ns), .str n]) := by
  refine call_of (by decide) (show tabOf "split" = some fSplit from rfl) rfl ?_
  refine e1_2 (P_snoc_parts ns n) fun a e1 e2 => ?_
  have hr := rfind_sl e1 hn.2.1
  have hc : (P (ns ++ [n])).cps.toList = a ++ 47 :: cl n := e1
  have hk : ((a.length : Int) + 1) = ((a.length + 1 : Nat) : Int) := by lia
  have s1 : slcD (.str (P (ns ++ [n]))) .none (.int ((a.length : Int) + 1)) = some (.str ⟨(a ++ [47]).toArray⟩) := by
    simp only [slcD_str, partD_none, partD_int, hk, cut_to, hc]
    congr 3
    rw [List.take_append, List.take_of_length_le (by lia)]
    have : a.length + 1 - a.length = 1 := by lia
    rw [this]; rfl
  have s2 : slcD (.str (P (ns ++ [n]))) (.int ((a.length : Int) + 1)) .none = some (.str n) := by
    simp only [slcD_str, partD_none, partD_int, hk, cut_from, hc]
    congr 2
    rw [List.drop_append, List.drop_of_length_le (by lia)]
    have : a.length + 1 - a.length = 1 := by lia
    rw [this, List.nil_append, List.drop_one, List.tail_cons, mk_cl]
  refine Runs.assign (y := .str (P (ns ++ [n]))) (by simp [evX_var, evX_call, evXs_nil, evXs_cons, v, upd, call_fsp]) ?_
  refine Runs.assign (y := .str sl) (by simp [evX_var, evX_call, evXs_nil, evXs_cons, v, upd, get_sep]) ?_
  refine Runs.assign (y := .int ((a.length : Int) + 1)) (by simp [evX_var, evX_int, evX_bin, evX_meth, evXs_nil, evXs_cons, v, upd, meth_rfind, hr, binD_addI]) ?_
  refine Runs.next (by simp [exS_swap, evX_nil, evX_var, evX_slc, evXs_nil, evXs_cons, v, upd, s1, s2, bindAll_nil, bindAll_cons]; rfl) ?_
  obtain ⟨ρ', g1, g2, g3⟩ := head_step (K := K) (C := callX tabOf K (m + 1)) h hl (x := ⟨(a ++ [47]).toArray⟩) (by rw [cl_mk, e2]) (ρ := upd (upd (upd (upd (upd (upd (fun _ => .no) "p" (.val (.str (P (ns ++ [n]))))) "p" (.val (.str (P (ns ++ [n]))))) "sep" (.val (.str sl))) "i" (.val (.int ((a.length : Int) + 1)))) "tail" (.val (.str n))) "head" (.val (.str ⟨(a ++ [47]).toArray⟩))) (by simp [upd]) (by simp [upd])
  refine Runs.next g1 (Runs.ret ?_)
  simp [evX_var, evX_tup, evXs_nil, evXs_cons, v, g2, g3, upd]

end Mine
end

section
open PySem PySem.W PyProof.Rows
namespace Mine
set_option tactic.hygienic false
variable {K : PyData → PyData → PyData → Option PyData}

theorem dirname_P (m : Nat) {ns : List Str} {n : Str} (h : ∀ n ∈ ns, Nm n) (hn : Nm n) (hl : ns.length ≤ 100) :
    callX tabOf K (m + 2) "dirname" [.str (P (ns ++ [n]))] = some (.str (P ns)) := by
  refine call_of (by decide) (show tabOf "dirname" = some fDirname from rfl) rfl ?_
  refine e1_2 (P_snoc_parts ns n) fun a e1 e2 => ?_
  have hr := rfind_sl e1 hn.2.1
  have hc : (P (ns ++ [n])).cps.toList = a ++ 47 :: cl n := e1
  have hk : ((a.length : Int) + 1) = ((a.length + 1 : Nat) : Int) := by lia
  have s1 : slcD (.str (P (ns ++ [n]))) .none (.int ((a.length : Int) + 1)) = some (.str ⟨(a ++ [47]).toArray⟩) := by
    simp only [slcD_str, partD_none, partD_int, hk, cut_to, hc]
    congr 3
    rw [List.take_append, List.take_of_length_le (by lia)]
    have : a.length + 1 - a.length = 1 := by lia
    rw [this]; rfl
  refine Runs.assign (y := .str (P (ns ++ [n]))) (by simp [evX_var, evX_call, evXs_nil, evXs_cons, v, upd, call_fsp]) ?_
  refine Runs.assign (y := .str sl) (by simp [evX_var, evX_call, evXs_nil, evXs_cons, v, upd, get_sep]) ?_
  refine Runs.assign (y := .int ((a.length : Int) + 1)) (by simp [evX_var, evX_int, evX_bin, evX_meth, evXs_nil, evXs_cons, v, upd, meth_rfind, hr, binD_addI]) ?_
  refine Runs.assign (y := .str ⟨(a ++ [47]).toArray⟩) (by simp [evX_nil, evX_var, evX_slc, v, upd, s1]) ?_
  obtain ⟨ρ', g1, g2, g3⟩ := head_step (K := K) (C := callX tabOf K (m + 1)) h hl (x := ⟨(a ++ [47]).toArray⟩) (by rw [cl_mk, e2]) (ρ := upd (upd (upd (upd (upd (fun _ => .no) "p" (.val (.str (P (ns ++ [n]))))) "p" (.val (.str (P (ns ++ [n]))))) "sep" (.val (.str sl))) "i" (.val (.int ((a.length : Int) + 1)))) "head" (.val (.str ⟨(a ++ [47]).toArray⟩))) (by simp [upd]) (by simp [upd])
  refine Runs.next g1 (Runs.ret ?_)
  simp [evX_var, v, g2]

/-! ### normpath -/
noncomputable def rooted (x : Str) (r : List Nat) : Prop := cl x = 47 :: r ∧ r.head? ≠ some 47 ∧ PyData.strOk x = true ∧ x.length ≤ 100

theorem eqv_sh {x : Str} (h : PyData.strOk x = true) : shal 4 (.str x) = true := by simpa [shal_none, shal_bool, shal_int, shal_str, shal_list, shal_tuple] using h

theorem mk_ok {x : Str} {l : List Nat} (hx : PyData.strOk x = true) (hs : ∀ c ∈ l, c ∈ cl x) : PyData.strOk ⟨l.toArray⟩ = true := strOk_mk fun c hc => strOk_cl.mp hx c (hs c hc)

theorem splitroot_ok (m : Nat) {x : Str} {r : List Nat} (h : rooted x r) : callX tabOf K (m + 2) "splitroot" [.str x] = some (.tuple [.str ⟨#[]⟩, .str sl, .str ⟨r.toArray⟩]) := by
  refine call_of (by decide) (show tabOf "splitroot" = some fSplitroot from rfl) rfl ?_
  refine e0_4 (h) fun h1 h2 h3 h4 => ?_
  have hc : x.cps.toList = 47 :: r := h1
  have s1 : slcD (.str x) .none (.int 1) = some (.str sl) := by
    have := cut_to x.cps.toList 1
    rw [hc] at this
    simp only [slcD_str, partD_none, partD_int, hc]
    rw [show (1 : Int) = ((1 : Nat) : Int) from rfl, this]; rfl
  have s2 : slcD (.str x) (.int 1) (.int 2) = some (.str ⟨(r.take 1).toArray⟩) := by
    simp only [slcD_str, partD_int, hc]
    congr 3
    simp only [cutD]
    rw [show (1 : Int) = ((1 : Nat) : Int) from rfl, show (2 : Int) = ((2 : Nat) : Int) from rfl, clampD_nat, clampD_nat]
    cases r <;> simp
  have s3 : slcD (.str x) (.int 1) .none = some (.str ⟨r.toArray⟩) := by
    have := cut_from x.cps.toList 1
    rw [hc] at this
    simp only [slcD_str, partD_none, partD_int, hc]
    rw [show (1 : Int) = ((1 : Nat) : Int) from rfl, this]; rfl
  have hsl : PyData.strOk sl = true := by decide +kernel
  have n1 : cmpD .ne (.str sl) (.str sl) = some (.bool false) := ne_self (eqv_sh hsl)
  have n2 : cmpD .ne (.str ⟨(r.take 1).toArray⟩) (.str sl) = some (.bool true) := by
    rw [ne_ss (mk_ok h3 fun c hcm => by rw [h1]; exact .tail _ (List.mem_of_mem_take hcm)) hsl]
    congr 2
    rw [decide_eq_true_eq]
    intro e
    have e' : r.take 1 = [47] := congrArg cl e
    cases r with
    | nil => cases e'
    | cons c t =>
      simp at e'
      subst e'
      exact h2 rfl
  refine Runs.assign (y := .str x) (by simp [evX_var, evX_call, evXs_nil, evXs_cons, v, upd, call_fsp]) ?_
  refine Runs.next (by simp [exS_assign, exS_ite, exSs_nil, exSs_cons, evT_isBytes, evX_var, evX_str, evX_isBytes, v, upd, truthyD_bool, sl_of, emp_of]; rfl) ?_
  refine ⟨upd (upd (upd (upd (fun _ => .no) "p" (.val (.str x))) "p" (.val (.str x))) "sep" (.val (.str sl))) "empty" (.val (.str ⟨#[]⟩)), ?_⟩
  simp [exSs_cons, exS_ite, exS_ret, evT_bop, evT_cmp, evTs_cons, evX_nil, evX_var, evX_int, evX_cmp, evX_bop, evX_tup, evX_slc, evXs_nil, evXs_cons, v, upd, s1, s2, s3, n1, n2, truthyD_bool]

/-- one name more -/
noncomputable def nstep (ns : List Str) (c : Str) : List Str := if c = ddS then ns.dropLast else ns ++ [c]

noncomputable def normBody : List S := [
    .ite (.bop false [.not (v "comp"), .cmp .eq (v "comp") (v "dot")]) [.cont] [],
    .ite (.bop false [.cmp .ne (v "comp") (v "dotdot"), .bop true [.not (v "initial_slashes"), .not (v "new_comps")],
        .bop true [v "new_comps", .cmp .eq (.ownLast "new_comps") (v "dotdot")]])
      [.append "new_comps" (v "comp")]
      [.ite (v "new_comps") [.pop "new_comps"] []]]

theorem norm_loop {C : String → List PyData → Option PyData} : ∀ (cs : List Str) (ns : List Str) (ρ : Ro), (∀ c ∈ cs, PyData.strOk c = true) → (∀ n ∈ ns, PyData.strOk n = true ∧ n ≠ ddS) → ns.length + cs.length ≤ 1000 →
    ρ "dot" = .val (.str dotS) → ρ "dotdot" = .val (.str ddS) → ρ "initial_slashes" = .val (.str sl) → ρ "new_comps" = .own (ns.map .str) →
    ∃ ρ', forD (fun d ρ => some (upd ρ "comp" (.val d))) (fun ρ => exSs C K normBody ρ) (cs.map .str) ρ = some (.next, ρ') ∧ ρ' "new_comps" = .own (((cs.filter keepC).foldl nstep ns).map .str) ∧
      ∀ y, y ≠ "new_comps" → y ≠ "comp" → ρ' y = ρ y
  | [], ns, ρ, _, _, _, _, _, _, h => ⟨ρ, rfl, h, fun _ _ _ => rfl⟩
  | c :: cs, ns, ρ, hc, hn, hl, h1, h2, h3, h4 => by
    have hdot : PyData.strOk dotS = true := by decide +kernel
    have hdd : PyData.strOk ddS = true := by decide +kernel
    have hcc := hc c (by simp)
    simp only [List.length_cons] at hl
    simp only [List.map_cons, forD_cons]
    have q1 := eq_ss hcc hdot
    have q2 := ne_ss hcc hdd
    by_cases hk : keepC c = true
    · have hk' := hk
      unfold keepC at hk'
      simp only [Bool.and_eq_true, bne_iff_ne, ne_eq, Bool.not_eq_true', beq_eq_false_iff_ne] at hk'
      have t1 : exS C K (.ite (.bop false [.not (v "comp"), .cmp .eq (v "comp") (v "dot")]) [.cont] []) (upd ρ "comp" (.val (.str c))) = some (.next, upd ρ "comp" (.val (.str c))) := by
        simp [exS_ite, exSs_nil, evT_not, evT_bop, evT_var, evT_cmp, evTs_nil, evTs_cons, evX_var, evX_cmp, evX_bop, evX_not, v, upd, truthyD_bool, truthyD_str, q1, h1, hk'.1, hk'.2]
      by_cases hd : c = ddS
      · -- a name less
        subst hd
        by_cases hns : ns = []
        · subst hns
          obtain ⟨ρ', g1, g2, g3⟩ := norm_loop (C := C) cs [] (upd ρ "comp" (.val (.str ddS))) (fun d hd => hc d (by simp [hd])) (by simp) (by simp at hl ⊢; lia) (by simp [upd, h1]) (by simp [upd, h2]) (by simp [upd, h3]) (by simp [upd, h4])
          refine ⟨ρ', ?_, ?_, fun y y1 y2 => by rw [g3 y y1 y2]; simp [upd, y2]⟩
          · have : exSs C K normBody (upd ρ "comp" (.val (.str ddS))) = some (.next, upd ρ "comp" (.val (.str ddS))) := by
              (first | rw [normBody, exSs_nil, t1] | rw [normBody, exSs_cons, t1])
              simp [exSs_nil, exSs_cons, exS_ite, evT_not, evT_bop, evT_var, evT_cmp, evTs_nil, evTs_cons, evX_var, evX_cmp, evX_bop, evX_not, v, upd, truthyD_bool, truthyD_str, q2, h2, h3, h4, sl, Str.length]
            rw [this]; exact g1
          · rw [g2, List.filter_cons_of_pos hk]; rfl
        · refine e2_1 (List.eq_nil_or_concat ns |>.resolve_left hns) fun l n ze26 => ?_; subst ze26
          rw [List.concat_eq_append] at *
          have hnn := hn n (by simp)
          have q3 := eq_ss hnn.1 hdd
          have hlast : ((l ++ [n]).map PyData.str).getLast? = some (.str n) := by simp
          have hnz : ((l ++ [n]).map PyData.str).length ≠ 0 := by simp
          obtain ⟨ρ', g1, g2, g3⟩ := norm_loop (C := C) cs l (upd (upd ρ "comp" (.val (.str ddS))) "new_comps" (.own (l.map .str))) (fun d hd => hc d (by simp [hd])) (fun m hm => hn m (by simp [hm])) (by simp at hl ⊢; lia) (by simp [upd, h1]) (by simp [upd, h2]) (by simp [upd, h3]) (by simp [upd])
          refine ⟨ρ', ?_, ?_, fun y y1 y2 => by rw [g3 y y1 y2]; simp [upd, y1, y2]⟩
          · have : exSs C K normBody (upd ρ "comp" (.val (.str ddS))) = some (.next, upd (upd ρ "comp" (.val (.str ddS))) "new_comps" (.own (l.map .str))) := by
              (first | rw [normBody, exSs_nil, t1] | rw [normBody, exSs_cons, t1])
              simp [exSs_nil, exSs_cons, exS_pop, exS_ite, evT_not, evT_bop, evT_var, evT_cmp, evTs_nil, evTs_cons, evX_var, evX_cmp, evX_bop, evX_not, evX_ownLast, v, upd, truthyD_bool, truthyD_str, q2, q3, h2, h3, h4, sl, Str.length, hnn.2]
            rw [this]; exact g1
          · rw [g2, List.filter_cons_of_pos hk, List.foldl_cons]
            simp [nstep]
      · obtain ⟨ρ', g1, g2, g3⟩ := norm_loop (C := C) cs (ns ++ [c]) (upd (upd ρ "comp" (.val (.str c))) "new_comps" (.own ((ns ++ [c]).map .str))) (fun d hd => hc d (by simp [hd])) (fun m hm => by
            rcases List.mem_append.mp hm with hm | hm
            · exact hn m hm
            · simp at hm; subst hm; exact ⟨hcc, hd⟩) (by simp at hl ⊢; lia) (by simp [upd, h1]) (by simp [upd, h2]) (by simp [upd, h3]) (by simp [upd])
        refine ⟨ρ', ?_, ?_, fun y y1 y2 => by rw [g3 y y1 y2]; simp [upd, y1, y2]⟩
        · have : exSs C K normBody (upd ρ "comp" (.val (.str c))) = some (.next, upd (upd ρ "comp" (.val (.str c))) "new_comps" (.own ((ns ++ [c]).map .str))) := by
            (first | rw [normBody, exSs_nil, t1] | rw [normBody, exSs_cons, t1])
            have hlen : ns.length < 1048576 := by lia
            simp [exSs_nil, exSs_cons, exS_append, exS_ite, evT_bop, evT_cmp, evTs_cons, evX_var, evX_cmp, evX_bop, v, upd, truthyD_bool, q2, h2, h4, hd, hlen]
          rw [this]; exact g1
        · rw [g2, List.filter_cons_of_pos hk, List.foldl_cons]
          simp [nstep, hd]
    · have hk' := hk
      unfold keepC at hk'
      simp only [Bool.and_eq_true, bne_iff_ne, ne_eq, Bool.not_eq_true', beq_eq_false_iff_ne] at hk'
      obtain ⟨ρ', g1, g2, g3⟩ := norm_loop (C := C) cs ns (upd ρ "comp" (.val (.str c))) (fun d hd => hc d (by simp [hd])) hn (by lia) (by simp [upd, h1]) (by simp [upd, h2]) (by simp [upd, h3]) (by simp [upd, h4])
      refine ⟨ρ', ?_, ?_, fun y y1 y2 => by rw [g3 y y1 y2]; simp [upd, y2]⟩
      · have : exSs C K normBody (upd ρ "comp" (.val (.str c))) = some (.cont, upd ρ "comp" (.val (.str c))) := by
          (first | rw [normBody, exSs_nil] | rw [normBody, exSs_cons])
          by_cases hz : c.length = 0
          · simp [exSs_cons, exS_ite, exS_cont, evT_not, evT_bop, evT_var, evTs_cons, evX_var, evX_bop, evX_not, v, upd, truthyD_str, hz]
          · have hd : c = dotS := Classical.byContradiction fun z => hk' ⟨hz, z⟩
            have q1' : cmpD .eq (.str c) (.str dotS) = some (.bool true) := by rw [q1, decide_eq_true hd]
            simp [exSs_cons, exS_ite, exS_cont, evT_not, evT_bop, evT_var, evT_cmp, evTs_cons, evX_var, evX_cmp, evX_bop, evX_not, v, upd, truthyD_bool, truthyD_str, q1', h1, hz]
        rw [this]; exact g1
      · rw [g2, List.filter_cons_of_neg hk]
end Mine
end

section
open PySem PySem.W PyProof.Rows
namespace Mine
set_option tactic.hygienic false
variable {K : PyData → PyData → PyData → Option PyData}

theorem jl_mem {c : Nat} : ∀ {ps : List Str} {p : Str}, p ∈ ps → c ∈ cl p → c ∈ jl ps
  | [x], p, h, hc => by
    simp at h; subst h; exact hc
  | x :: y :: r, p, h, hc => by
    show c ∈ cl x ++ 47 :: jl (y :: r)
    rcases List.mem_cons.mp h with rfl | h
    · exact List.mem_append.mpr (.inl hc)
    · exact List.mem_append.mpr (.inr (.tail _ (jl_mem h hc)))
theorem jl_count : ∀ (ps : List Str), ps.length ≤ (jl ps).length + 1
  | [] => by simp
  | [x] => by simp
  | x :: y :: r => by
    have := jl_count (y :: r)
    show _ ≤ (cl x ++ 47 :: jl (y :: r)).length + 1
    rw [List.length_append, List.length_cons]
    simp only [List.length_cons] at this ⊢
    lia
theorem split_ok {x : Str} (h : PyData.strOk x = true) : ∀ p ∈ Txt.split x sl, PyData.strOk p = true := fun p hp =>
  strOk_cl.mpr fun c hc => strOk_cl.mp h c (by rw [← jl_split x]; exact jl_mem hp hc)
theorem split_count (x : Str) : (Txt.split x sl).length ≤ x.length + 1 := by
  have := jl_count (Txt.split x sl)
  rw [jl_split, cl_len] at this
  exact this

theorem strsL_map : ∀ ns : List Str, strsOf (ns.map .str) = some ns
  | [] => rfl
  | n :: r => by simp [strsOf_cons, strsL_map r]

theorem meth_split {x : Str} (h : x.length ≤ 1000) : methD "split" (.str x) [.str sl] = some (.list ((Txt.split x sl).map .str)) := by
  have e : sl.length = 1 := rfl
  simp [methD_split, e]; lia

theorem names_sum : ∀ {ns : List Str}, (∀ n ∈ ns, Nm n) → (ns.map (·.length)).sum ≤ 2 * ns.length
  | [], _ => by simp
  | n :: r, h => by
    have h1 := (h n (by simp)).2.2.2.2
    have h2 := names_sum (ns := r) fun m hm => h m (by simp [hm])
    simp only [List.map_cons, List.sum_cons, List.length_cons]
    lia

theorem meth_join {ns : List Str} (h : ∀ n ∈ ns, Nm n) (hl : ns.length ≤ 1000) : methD "join" (.str sl) [.list (ns.map .str)] = some (.str (Txt.join sl ns)) := by
  have e : sl.length = 1 := rfl
  have := names_sum h
  simp [methD_join, strsL_map, e]
  lia
theorem join_P {ns : List Str} (h : ∀ n ∈ ns, Nm n) (hl : ns.length ≤ 1000) : binD .add (.str sl) (.str (Txt.join sl ns)) = some (.str (P ns)) := by
  have h1 := P_len h
  have h2 : (P ns).length = sl.length + (Txt.join sl ns).length := by unfold P; rw [Str.length_append]
  simp only [binD_addS]
  rw [if_pos (by rw [sizeLine_eq]; lia)]
  rfl

set_option tactic.hygienic true in
theorem nstep_mem : ∀ {cs ns : List Str} {n : Str}, n ∈ cs.foldl nstep ns → n ∈ ns ∨ (n ∈ cs ∧ n ≠ ddS)
  | [], ns, n, h => .inl h
  | c :: cs, ns, n, h => by
    rw [List.foldl_cons] at h
    rcases nstep_mem h with h | ⟨h, h'⟩
    · unfold nstep at h
      split at h
      · exact .inl (List.dropLast_subset _ h)
      · rename_i hc
        rcases List.mem_append.mp h with h | h
        · exact .inl h
        · simp at h; subst h; exact .inr ⟨by simp, hc⟩
    · exact .inr ⟨.tail _ h, h'⟩
theorem nstep_len : ∀ (cs ns : List Str), (cs.foldl nstep ns).length ≤ ns.length + cs.length
  | [], ns => by simp
  | c :: cs, ns => by
    rw [List.foldl_cons]
    have := nstep_len cs (nstep ns c)
    have h2 : (nstep ns c).length ≤ ns.length + 1 := by
      unfold nstep; split <;> simp <;> lia
    simp only [List.length_cons]; lia

set_option tactic.hygienic true in
theorem norm_ok (m : Nat) {x : Str} {r : List Nat} (h : rooted x r) (hn : ∀ c ∈ comps x, Nm c) : callX tabOf K (m + 3) "normpath" [.str x] = some (.str (P ((comps x).foldl nstep []))) := by
  refine call_of (by decide) (show tabOf "normpath" = some fNormpath from rfl) rfl ?_
  refine e0_4 (id h) fun h1 h2 h3 h4 => ?_
  have hxn : x.length ≠ 0 := by rw [← cl_len, h1]; simp
  have hxb : (x.length != 0) = true := by simpa using hxn
  refine Runs.assign (y := .str x) (by simp [evX_var, evX_call, evXs_nil, evXs_cons, v, upd, call_fsp]) ?_
  refine Runs.next (by simp [exS_assign, exS_ite, exSs_nil, exSs_cons, evT_isBytes, evX_var, evX_str, evX_isBytes, v, upd, truthyD_bool, sl_of, dot_of, dd_of]; rfl) ?_
  refine Runs.next (ρ' := upd (upd (upd (upd (upd (fun _ => .no) "path" (.val (.str x))) "path" (.val (.str x))) "sep" (.val (.str sl))) "dot" (.val (.str dotS))) "dotdot" (.val (.str ddS))) (by simp [exS_ite, exSs_nil, evT_not, evT_var, evX_var, evX_not, v, upd, truthyD_str, hxb]) ?_
  refine Runs.next (by simp only [exS_unpack, evX_var, evX_call, evXs_nil, evXs_cons, v, upd]; simp [splitroot_ok m h, unpackD_tup, bindAll_nil, bindAll_cons]; rfl) ?_
  have hr : (⟨r.toArray⟩ : Str).length ≤ 1000 := by
    rw [← cl_len, cl_mk]
    have := congrArg List.length h1
    rw [cl_len] at this
    simp at this; lia
  have hcx : comps x = comps ⟨r.toArray⟩ := by
    rw [comps_cat (a := ⟨#[]⟩) (b := ⟨r.toArray⟩) (by rw [h1]; rfl), comps_nil, List.nil_append]
  refine Runs.assign (y := .list ((Txt.split ⟨r.toArray⟩ sl).map .str)) (by simp [evX_var, evX_meth, evXs_nil, evXs_cons, v, upd, meth_split hr]) ?_
  refine Runs.next (by (first | rw [exS_assign] | rw [exS_assignC] | rw [exS_setTrue] | rw [exS_unpack] | rw [exS_swap] | rw [exS_swapOwn] | rw [exS_swapComp] | rw [exS_newOwn] | rw [exS_freeze] | rw [exS_append] | rw [exS_pop] | rw [exS_aug] | rw [exS_ite] | rw [exS_whl] | rw [exS_for1] | rw [exS_forT] | rw [exS_forR] | rw [exS_forE] | rw [exS_ret] | rw [exS_brk] | rw [exS_cont] | rw [exS_try] | rw [exS_dead])) ?_
  have hok : ∀ c ∈ Txt.split ⟨r.toArray⟩ sl, PyData.strOk c = true := split_ok (mk_ok h3 fun c hc => by rw [h1]; exact .tail _ hc)
  have hcount := split_count ⟨r.toArray⟩
  obtain ⟨ρ', g1, g2, g3⟩ := norm_loop (C := callX tabOf K (m + 2)) (K := K) (Txt.split ⟨r.toArray⟩ sl) [] (upd (upd (upd (upd (upd (upd (upd (upd (upd (upd (fun _ => .no) "path" (.val (.str x))) "path" (.val (.str x))) "sep" (.val (.str sl))) "dot" (.val (.str dotS))) "dotdot" (.val (.str ddS))) "_" (.val (.str ⟨#[]⟩))) "initial_slashes" (.val (.str sl))) "path" (.val (.str ⟨r.toArray⟩))) "comps" (.val (.list ((Txt.split ⟨r.toArray⟩ sl).map .str)))) "new_comps" (.own [])) hok (by simp) (by
    have : (⟨r.toArray⟩ : Str).length ≤ 100 := by
      rw [← cl_len, cl_mk]
      have := congrArg List.length h1
      rw [cl_len] at this
      simp at this; lia
    simp only [List.length_nil]; lia) (by simp [upd]) (by simp [upd]) (by simp [upd]) (by simp [upd])
  have hf : (Txt.split ⟨r.toArray⟩ sl).filter keepC = comps x := hcx.symm
  rw [hf] at g2
  have hN : ∀ n ∈ (comps x).foldl nstep [], Nm n := fun n hm => by
    rcases nstep_mem hm with h | h
    · cases h
    · exact hn n h.1
  have hL : ((comps x).foldl nstep []).length ≤ 1000 := by
    have h5 := nstep_len (comps x) []
    have h6 : (comps x).length ≤ (Txt.split x sl).length := List.length_filter_le _ _
    have h7 := split_count x
    simp only [List.length_nil] at h5
    lia
  refine Runs.next (ρ' := ρ') (by simp only [exS_for1, evX_var, v, upd, if_true]; exact g1) ?_
  refine Runs.next (by simp only [exS_freeze, g2]; rfl) ?_
  refine Runs.assign (y := .str (P ((comps x).foldl nstep []))) (by simp [evX_var, evX_bin, evX_meth, evXs_nil, evXs_cons, v, upd, g3, meth_join hN hL, join_P hN hL]) ?_
  have hp : (P ((comps x).foldl nstep [])).length ≠ 0 := by rw [← cl_len, cl_P]; simp
  refine Runs.ret ?_
  simp [evX_var, evX_bop, evB_cons, v, upd, truthyD_str, hp]
end Mine
end

section
open PySem PySem.W PyProof.Rows
namespace Mine
set_option tactic.hygienic false
variable {K : PyData → PyData → PyData → Option PyData}

theorem path_ok (m : Nat) {ns : List Str} (h : ∀ n ∈ ns, Nm n) (hl : ns.length ≤ 1000) : callX tabOf K (m + 1) "_law_path" [.list (ns.map .str)] = some (.str (P ns)) := by
  refine call_of (by decide) (show tabOf "_law_path" = some fPath from rfl) rfl ?_
  refine Runs.ret ?_
  simp [evX_var, evX_str, evX_bin, evX_meth, evXs_nil, evXs_cons, v, upd, sl_of, meth_join h hl, join_P h hl]

noncomputable def eS : Str := ⟨#[]⟩
noncomputable def padL (ns : List Str) : List Str := ns ++ List.replicate (3 - ns.length) eS
noncomputable def rowL (n : Int) (ns : List Str) : List PyData := .int n :: (padL ns).map .str ++ [.str (P ns)]
noncomputable def rowD (n : Int) (ns : List Str) : PyData := .tuple (rowL n ns)

theorem pads {C : String → List PyData → Option PyData} {ρ : Ro} {n : Int} {ns : List Str} {x : X} (hl : ns.length ≤ 3) (h1 : ρ "number" = .val (.int n)) (h2 : ρ "names" = .val (.list (ns.map .str))) (hx : evX C K ρ x = some (.str (P ns))) :
    evX C K ρ (.bi "tuple" [.bin .add (.bin .add (.bin .add (.list [v "number"]) (v "names")) (.bin .mul (.list [.str ""]) (.bin .sub (.int 3) (.bi "len" [v "names"])))) (.list [x])]) = some (rowD n ns) := by
  have e1 : ((3 : Int) - (ns.length : Nat)).toNat = 3 - ns.length := by lia
  have e2 : repL (3 - ns.length) [PyData.str eS] = List.replicate (3 - ns.length) (.str eS) := by
    unfold repL
    generalize 3 - ns.length = k
    induction k with
    | zero => rfl
    | succ k ih => rw [List.replicate_succ, List.flatten_cons, ih]; rfl
  have b1 : binD .add (.list [.int n]) (.list (ns.map .str)) = some (.list ([.int n] ++ ns.map .str)) := by
    simp only [binD_addL]; rw [if_pos (by simp [sizeLine_eq]; lia)]
  have b2 : binD .mul (.list [.str eS]) (.int (3 - (ns.length : Nat))) = some (.list (List.replicate (3 - ns.length) (.str eS))) := by
    simp only [binD_mulL, e1, e2]; rw [if_pos (by simp; lia)]
  have b3 : binD .add (.list ([.int n] ++ ns.map .str)) (.list (List.replicate (3 - ns.length) (.str eS))) = some (.list ([.int n] ++ ns.map .str ++ List.replicate (3 - ns.length) (.str eS))) := by
    simp only [binD_addL]; rw [if_pos (by simp [sizeLine_eq]; lia)]
  have b4 : binD .add (.list ([.int n] ++ ns.map .str ++ List.replicate (3 - ns.length) (.str eS))) (.list [.str (P ns)]) = some (.list ([.int n] ++ ns.map .str ++ List.replicate (3 - ns.length) (.str eS) ++ [.str (P ns)])) := by
    simp only [binD_addL]; rw [if_pos (by simp [sizeLine_eq]; lia)]
  have b5 : binD .sub (.int 3) (.int (ns.length : Nat)) = some (.int (3 - (ns.length : Nat))) := rfl
  have hb : biD "len" [.list (ns.map .str)] = some (.int (ns.length : Nat)) := by simp [biD_lenL]
  have hE : Str.ofString "" = eS := emp_of
  simp only [evX_var, evX_int, evX_str, evX_bin, evX_list, evX_bi, evXs_nil, evXs_cons, v, h1, h2, hx, hb, hE, b1, b5, b2, b3, b4]
  simp [biD_tuple, rowD, rowL, padL]

theorem plain_ok (m : Nat) {n : Int} {ns : List Str} (h : ∀ n ∈ ns, Nm n) (hl : ns.length ≤ 3) : callX tabOf K (m + 2) "_law_plain" [.int n, .list (ns.map .str)] = some (rowD n ns) := by
  refine call_of (by decide) (show tabOf "_law_plain" = some fPlain from rfl) rfl ?_
  refine Runs.ret (pads hl (by simp [upd]) (by simp [upd]) ?_)
  simp [evX_var, evX_call, evXs_nil, evXs_cons, v, upd, path_ok m h (by lia)]

noncomputable def rowTest : X := .bop true [.cmp .ne (v "step") (.str "/"), .cmp .lt (.bi "len" [v "names"]) (.int 4)]
noncomputable def rowBody : List S := [
    .unpack ["step", "name"] (.call "split" [v "step"]),
    .assign "names" (.bin .add (.list [v "name"]) (v "names"))]

theorem row_loop (m : Nat) : ∀ (k : Nat) (as bs : List Str) (ρ : Ro) (fuel : Nat), as.length = k → k < fuel → (∀ n ∈ as, Nm n) → as.length + bs.length ≤ 3 → ρ "step" = .val (.str (P as)) → ρ "names" = .val (.list (bs.map .str)) →
    ∃ ρ', whileD (fun ρ => evT (callX tabOf K (m + 2)) K ρ rowTest (evX (callX tabOf K (m + 2)) K ρ rowTest)) (fun ρ => exSs (callX tabOf K (m + 2)) K rowBody ρ) fuel ρ = some (.next, ρ') ∧ ρ' "names" = .val (.list ((as ++ bs).map .str)) ∧
      ∀ y, y ≠ "step" → y ≠ "name" → y ≠ "names" → ρ' y = ρ y
  | k, as, bs, ρ, 0, _, hf, _, _, _, _ => absurd hf (by lia)
  | k, as, bs, ρ, fuel + 1, hk, hf, hn, hl, h1, h2 => by
    have hslo : PyData.strOk sl = true := by decide +kernel
    have q := ne_ss (P_ok fun n hm => (hn n hm).2.2.2.1) hslo (x := P as)
    have hlen : biD "len" [.list (bs.map .str)] = some (.int (bs.length : Nat)) := by simp [biD_lenL]
    by_cases e : as = []
    · subst e
      rw [P_nil] at q
      refine ⟨ρ, ?_, by simpa using h2, fun _ _ _ _ => rfl⟩
      unfold whileD
      simp [rowTest, evT_bop, evT_cmp, evTs_cons, evX_var, evX_str, evX_cmp, evX_bop, v, h1, sl_of, P_nil, q, truthyD_bool]
    · refine e2_1 (List.eq_nil_or_concat as |>.resolve_left e) fun l n ze45 => ?_; subst ze45
      rw [List.concat_eq_append] at *
      have hPne : P (l ++ [n]) ≠ sl := fun z => by
        have := P_inj hn (ms := []) (by simp) (z.trans P_nil.symm)
        simp at this
      have q' : cmpD .ne (.str (P (l ++ [n]))) (.str sl) = some (.bool true) := by rw [q]; simp [hPne]
      have hn' := hn n (by simp)
      have hll : ∀ n ∈ l, Nm n := fun a ha => hn a (by simp [ha])
      have hlt : cmpD .lt (.int (bs.length : Nat)) (.int 4) = some (.bool true) := by
        simp only [List.length_append, List.length_cons, List.length_nil] at hl
        simp [cmpD_lt, ltD_int]; lia
      have b1 : binD .add (.list [.str n]) (.list (bs.map .str)) = some (.list ((n :: bs).map .str)) := by
        simp only [binD_addL]; rw [if_pos (by simp [sizeLine_eq] at hl ⊢; lia)]; rfl
      simp only [List.length_append, List.length_cons, List.length_nil] at hl hk
      obtain ⟨ρ', g1, g2, g3⟩ := row_loop m (k - 1) l (n :: bs) (upd (upd (upd ρ "step" (.val (.str (P l)))) "name" (.val (.str n))) "names" (.val (.list ((n :: bs).map .str)))) fuel (by lia) (by lia) hll
        (by simp only [List.length_cons]; lia) (by simp [upd]) (by simp [upd])
      refine ⟨ρ', ?_, by rw [g2]; simp, fun y y1 y2 y3 => by rw [g3 y y1 y2 y3]; simp [upd, y1, y2, y3]⟩
      unfold whileD
      have ht : evT (callX tabOf K (m + 2)) K ρ rowTest (evX (callX tabOf K (m + 2)) K ρ rowTest) = some true := by
        simp [rowTest, evT_bop, evT_cmp, evTs_nil, evTs_cons, evX_var, evX_int, evX_str, evX_cmp, evX_bop, evX_bi, evXs_nil, evXs_cons, v, h1, h2, sl_of, q', hlen, hlt, truthyD_bool]
      have hb : exSs (callX tabOf K (m + 2)) K rowBody ρ = some (.next, upd (upd (upd ρ "step" (.val (.str (P l)))) "name" (.val (.str n))) "names" (.val (.list ((n :: bs).map .str)))) := by
        simp only [rowBody, exSs_nil, exSs_cons, exS_assign, exS_unpack, evX_var, evX_bin, evX_list, evX_call, evXs_nil, evXs_cons, v, h1, split_P m hll hn' (by lia), unpackD_tup, bindAll_nil, bindAll_cons]
        simp [upd, h2]
        rw [b1]; rfl
      simp only [ht, hb]
      exact g1

theorem row_ok (m : Nat) {n : Int} {ns : List Str} (h : ∀ n ∈ ns, Nm n) (hl : ns.length ≤ 3) : callX tabOf K (m + 3) "_law_row" [.int n, .str (P ns)] = some (rowD n ns) := by
  refine call_of (by decide) (show tabOf "_law_row" = some fRow from rfl) rfl ?_
  refine Runs.next (by simp [exS_swap, evX_var, evX_list, evXs_nil, evXs_cons, v, upd, bindAll_nil, bindAll_cons]; rfl) ?_
  obtain ⟨ρ', g1, g2, g3⟩ := row_loop (K := K) m ns.length ns [] (upd (upd (upd (upd (fun _ => .no) "number" (.val (.int n))) "place" (.val (.str (P ns)))) "step" (.val (.str (P ns)))) "names" (.val (.list []))) WN rfl (by unfold WN; lia) h (by simpa using hl) (by simp [upd]) (by simp [upd])
  refine Runs.next (ρ' := ρ') (by (first | rw [exS_assign] | rw [exS_assignC] | rw [exS_setTrue] | rw [exS_unpack] | rw [exS_swap] | rw [exS_swapOwn] | rw [exS_swapComp] | rw [exS_newOwn] | rw [exS_freeze] | rw [exS_append] | rw [exS_pop] | rw [exS_aug] | rw [exS_ite] | rw [exS_whl] | rw [exS_for1] | rw [exS_forT] | rw [exS_forR] | rw [exS_forE] | rw [exS_ret] | rw [exS_brk] | rw [exS_cont] | rw [exS_try] | rw [exS_dead]); exact g1) ?_
  refine Runs.ret (pads hl (by simp [g3, upd]) (by simpa using g2) ?_)
  simp [evX_var, v, g3, upd]
end Mine
end

section
open PySem PySem.W PyProof.Rows
namespace Mine
set_option tactic.hygienic false
variable {K : PyData → PyData → PyData → Option PyData}

/-! ### common fronts -/
noncomputable def lcp : List Str → List Str → List Str
  | x :: xs, y :: ys => if x = y then x :: lcp xs ys else []
  | _, _ => []
theorem lcp_left : ∀ (a b : List Str), lcp a b <+: a
  | [], _ => by simp [lcp]
  | _ :: _, [] => by simp [lcp]
  | x :: xs, y :: ys => by
    unfold lcp
    split
    · exact List.prefix_cons_inj x |>.mpr (lcp_left xs ys)
    · exact List.nil_prefix
set_option tactic.hygienic true in
theorem lcp_right : ∀ (a b : List Str), lcp a b <+: b
  | [], _ => by simp [lcp]
  | _ :: _, [] => by simp [lcp]
  | x :: xs, y :: ys => by
    unfold lcp
    split
    · rename_i e; subst e
      exact List.prefix_cons_inj x |>.mpr (lcp_right xs ys)
    · exact List.nil_prefix
theorem lcp_most : ∀ {c a b : List Str}, c <+: a → c <+: b → c <+: lcp a b
  | [], _, _, _, _ => List.nil_prefix
  | z :: c, [], _, h, _ => by simp at h
  | z :: c, _ :: _, [], _, h => by simp at h
  | z :: c, x :: xs, y :: ys, h1, h2 => by
    refine e0_2 (List.cons_prefix_cons.mp h1) fun e1 h1 => ?_
    refine e0_2 (List.cons_prefix_cons.mp h2) fun e2 h2 => ?_
    unfold lcp
    rw [if_pos (e1.symm.trans e2), e1]
    exact List.prefix_cons_inj x |>.mpr (lcp_most h1 h2)
theorem pre_anti {a b : List Str} (h1 : a <+: b) (h2 : b <+: a) : a = b := h1.eq_of_length (Nat.le_antisymm h1.length_le h2.length_le)
theorem lcp_self (a : List Str) : lcp a a = a := pre_anti (lcp_left a a) (lcp_most (List.prefix_refl a) (List.prefix_refl a))
theorem lcp_of_pre {a b : List Str} (h : a <+: b) : lcp a b = a := pre_anti (lcp_left a b) (lcp_most (List.prefix_refl a) h)

noncomputable def lcpAll : List (List Str) → List Str
  | [] => []
  | a :: ls => ls.foldl lcp a
theorem foldl_lcp_pre : ∀ (ls : List (List Str)) (a : List Str), ls.foldl lcp a <+: a ∧ ∀ l ∈ ls, ls.foldl lcp a <+: l
  | [], a => ⟨List.prefix_refl a, fun _ h => nomatch h⟩
  | b :: ls, a => by
    rw [List.foldl_cons]
    refine e0_2 (foldl_lcp_pre ls (lcp a b)) fun h1 h2 => ?_
    refine ⟨h1.trans (lcp_left a b), fun l hl => ?_⟩
    rcases List.mem_cons.mp hl with rfl | hl
    · exact h1.trans (lcp_right a l)
    · exact h2 l hl
theorem foldl_lcp_most : ∀ {ls : List (List Str)} {a c : List Str}, c <+: a → (∀ l ∈ ls, c <+: l) → c <+: ls.foldl lcp a
  | [], _, _, h, _ => h
  | b :: ls, a, c, h, h' => by
    rw [List.foldl_cons]
    exact foldl_lcp_most (lcp_most h (h' b (by simp))) fun l hl => h' l (by simp [hl])
theorem lcpAll_pre {ls : List (List Str)} : ∀ l ∈ ls, lcpAll ls <+: l := by
  cases ls with
  | nil => intro l h; cases h
  | cons a ls =>
    intro l h
    rcases List.mem_cons.mp h with rfl | h
    · exact (foldl_lcp_pre ls l).1
    · exact (foldl_lcp_pre ls a).2 l h
theorem lcpAll_most {ls : List (List Str)} {c : List Str} (hne : ls ≠ []) (h : ∀ l ∈ ls, c <+: l) : c <+: lcpAll ls := by
  cases ls with
  | nil => exact absurd rfl hne
  | cons a ls => exact foldl_lcp_most (h a (by simp)) fun l hl => h l (by simp [hl])

/-! ### _law_shared -/
noncomputable def strL (l : List Str) : PyData := .list (l.map .str)
theorem shal_strL {l : List Str} (h : ∀ x ∈ l, PyData.strOk x = true) : shal 4 (strL l) = true := by
  simp only [strL, shal_list, List.all_eq_true]
  intro y hy
  refine e1_2 (List.mem_map.mp hy) fun x hx ze46 => ?_; subst ze46
  simpa [shal_none, shal_bool, shal_int, shal_str, shal_list, shal_tuple] using h x hx

theorem cut_drop {α : Type} (l : List α) : cutD l none (some (-1)) = l.dropLast := by
  have : clampD l.length (-1) = l.length - 1 := by
    unfold clampD
    rw [if_pos (by lia)]; lia
  simp only [cutD, this, List.drop_zero, Nat.sub_zero, List.dropLast_eq_take]

theorem take_pre {f o : List Str} : o.take f.length = f ↔ f <+: o := by
  rw [List.prefix_iff_eq_take]
  exact ⟨fun h => h.symm, fun h => h.symm⟩

noncomputable def shTest : X := .cmp .ne (.slc (v "other") .nil (.bi "len" [v "front"])) (v "front")
noncomputable def shBody : List S := [.assign "front" (.slc (v "front") .nil (.neg (.int 1)))]

theorem sh_while {C : String → List PyData → Option PyData} : ∀ (k : Nat) (f o : List Str) (ρ : Ro) (fuel : Nat), f.length = k → k < fuel → (∀ x ∈ f, PyData.strOk x = true) → (∀ x ∈ o, PyData.strOk x = true) → ρ "front" = .val (strL f) → ρ "other" = .val (strL o) →
    ∃ ρ', whileD (fun ρ => evT C K ρ shTest (evX C K ρ shTest)) (fun ρ => exSs C K shBody ρ) fuel ρ = some (.next, ρ') ∧ ρ' "front" = .val (strL (lcp f o))
  | k, f, o, ρ, 0, _, hf, _, _, _, _ => absurd hf (by lia)
  | k, f, o, ρ, fuel + 1, hk, hf, h1, h2, e1, e2 => by
    have s1 : slcD (strL o) .none (.int (f.length : Nat)) = some (strL (o.take f.length)) := by
      simp [slcD_list, strL, partD_none, partD_int, cut_to, List.map_take]
    have hlen : biD "len" [strL f] = some (.int (f.length : Nat)) := by simp [biD_lenL, strL]
    have q : cmpD .ne (strL (o.take f.length)) (strL f) = some (.bool (decide (o.take f.length ≠ f))) := by
      have a1 := shal_strL h1
      have a2 : shal 4 (strL (o.take f.length)) = true := shal_strL fun x hx => h2 x (List.mem_of_mem_take hx)
      simp only [cmpD_ne, a1, a2, Bool.and_self, if_true]
      rw [strL, strL, eqv_ll]
      congr 2
      rw [Bool.eq_iff_iff]; simp
    have ht : evT C K ρ shTest (evX C K ρ shTest) = some (decide (o.take f.length ≠ f)) := by
      simp [shTest, evT_cmp, evX_nil, evX_var, evX_cmp, evX_slc, evX_bi, evXs_nil, evXs_cons, v, e1, e2, hlen, s1, q, truthyD_bool]
    by_cases hp : f <+: o
    · have : o.take f.length = f := take_pre.mpr hp
      refine ⟨ρ, ?_, by rw [lcp_of_pre hp]; exact e1⟩
      unfold whileD
      simp only [ht, this]; simp
    · have hne : o.take f.length ≠ f := fun z => hp (take_pre.mp z)
      have hfn : f ≠ [] := fun z => hp (by rw [z]; exact List.nil_prefix)
      have hl : 0 < f.length := List.length_pos_iff.mpr hfn
      have s2 : slcD (strL f) .none (.int (-1)) = some (strL f.dropLast) := by
        simp [slcD_list, strL, partD_none, partD_int, cut_drop]
      obtain ⟨ρ', g1, g2⟩ := sh_while (C := C) (k - 1) f.dropLast o (upd ρ "front" (.val (strL f.dropLast))) fuel (by simp; lia) (by lia) (fun x hx => h1 x (List.dropLast_subset _ hx)) h2 (by simp [upd]) (by simp [upd, e2])
      refine ⟨ρ', ?_, ?_⟩
      · unfold whileD
        have hb : exSs C K shBody ρ = some (.next, upd ρ "front" (.val (strL f.dropLast))) := by
          simp [shBody, exSs_nil, exSs_cons, exS_assign, evX_nil, evX_var, evX_int, evX_neg, evX_slc, v, e1, s2]
        rw [decide_eq_true hne] at ht
        simp only [ht, hb]
        exact g1
      · rw [g2]
        congr 2
        refine pre_anti (lcp_most ((lcp_left _ _).trans (List.dropLast_prefix f)) (lcp_right _ _)) (lcp_most ?_ (lcp_right _ _))
        have h3 := lcp_left f o
        have h4 : (lcp f o).length ≠ f.length := fun z => hp (by
          have := h3.eq_of_length z
          rw [← this]; exact lcp_right f o)
        have h5 := h3.length_le
        rw [List.prefix_iff_eq_take] at h3
        rw [h3, List.dropLast_eq_take]
        exact List.take_prefix_take_left (by lia)
noncomputable def shLoop : List S := [.whl shTest shBody]
theorem sh_for {C : String → List PyData → Option PyData} : ∀ (ls : List (List Str)) (f : List Str) (ρ : Ro), f.length < WN → (∀ x ∈ f, PyData.strOk x = true) → (∀ l ∈ ls, ∀ x ∈ l, PyData.strOk x = true) → ρ "front" = .val (strL f) →
    ∃ ρ', forD (fun d ρ => some (upd ρ "other" (.val d))) (fun ρ => exSs C K shLoop ρ) (ls.map strL) ρ = some (.next, ρ') ∧ ρ' "front" = .val (strL (ls.foldl lcp f))
  | [], f, ρ, _, _, _, e => ⟨ρ, rfl, e⟩
  | o :: ls, f, ρ, hl, h1, h2, e => by
    obtain ⟨ρ₁, g1, g2⟩ := sh_while (K := K) (C := C) f.length f o (upd ρ "other" (.val (strL o))) WN rfl hl h1 (h2 o (by simp)) (by simp [upd, e]) (by simp [upd])
    obtain ⟨ρ₂, g3, g4⟩ := sh_for (C := C) ls (lcp f o) ρ₁ (Nat.lt_of_le_of_lt (lcp_left f o).length_le hl) (fun x hx => h1 x ((lcp_left f o).subset hx)) (fun l hl => h2 l (by simp [hl])) g2
    refine ⟨ρ₂, ?_, g4⟩
    have : exSs C K shLoop (upd ρ "other" (.val (strL o))) = some (.next, ρ₁) := by
      simp only [shLoop, exSs_nil, exSs_cons, exS_whl, g1]
    simp only [List.map_cons, forD_cons, this]
    exact g3

theorem shared_ok (m : Nat) {ls : List (List Str)} (hne : ls ≠ []) (h : ∀ l ∈ ls, l.length < WN ∧ ∀ x ∈ l, PyData.strOk x = true) : callX tabOf K (m + 1) "_law_shared" [.list (ls.map strL)] = some (strL (lcpAll ls)) := by
  refine call_of (by decide) (show tabOf "_law_shared" = some fShared from rfl) rfl ?_
  cases ls with
  | nil => exact absurd rfl hne
  | cons a ls =>
    refine Runs.assign (y := strL a) (by simp [evX_var, evX_int, evX_idx, v, upd, idxD_list]) ?_
    have ha := h a (by simp)
    obtain ⟨ρ', g1, g2⟩ := sh_for (K := K) (C := callX tabOf K m) (a :: ls) a (upd (upd (fun _ => .no) "lists" (.val (.list ((a :: ls).map strL)))) "front" (.val (strL a))) ha.1 ha.2 (fun l hl => (h l hl).2) (by simp [upd])
    refine Runs.next (ρ' := ρ') (by simp only [exS_for1, evX_var, v, upd]; exact g1) (Runs.ret ?_)
    rw [List.foldl_cons, lcp_self] at g2
    simp only [evX_var, v, g2]; rfl
end Mine
end

section
open PySem PySem.W PyProof.Rows
namespace Mine
set_option tactic.hygienic false
variable {K : PyData → PyData → PyData → Option PyData}

/-! ### the order of texts, and of lists of texts -/
noncomputable def lts (x y : Str) : Bool := decide (cl x < cl y)
theorem lts_irrefl (x : Str) : lts x x = false := by simp [lts, List.lt_irrefl]
theorem lts_trans {x y z : Str} (h1 : lts x y = true) (h2 : lts y z = true) : lts x z = true := by
  simp only [lts, decide_eq_true_eq] at *
  exact List.lt_trans h1 h2
theorem lts_asymm {x y : Str} (h1 : lts x y = true) : lts y x = false := by
  cases h : lts y x with
  | false => rfl
  | true => have := lts_trans h1 h; rw [lts_irrefl] at this; cases this
theorem lts_tri {x y : Str} (h1 : lts x y = false) (h2 : lts y x = false) : x = y := by
  simp only [lts, decide_eq_false_iff_not, List.not_lt] at *
  exact cl_inj (List.le_antisymm h2 h1)

noncomputable def ltl : List Str → List Str → Bool
  | [], [] => false
  | [], _ :: _ => true
  | _ :: _, [] => false
  | x :: xs, y :: ys => if x = y then ltl xs ys else lts x y
theorem ltl_irrefl : ∀ a : List Str, ltl a a = false
  | [] => rfl
  | x :: xs => by simp [ltl, ltl_irrefl xs]
theorem ltl_trans : ∀ {a b c : List Str}, ltl a b = true → ltl b c = true → ltl a c = true
  | [], [], _, h, _ => by simp [ltl] at h
  | [], _ :: _, [], _, h => by simp [ltl] at h
  | [], _ :: _, _ :: _, _, _ => by simp [ltl]
  | _ :: _, [], _, h, _ => by simp [ltl] at h
  | _ :: _, _ :: _, [], _, h => by simp [ltl] at h
  | x :: xs, y :: ys, z :: zs, h1, h2 => by
    unfold ltl at *
    by_cases e1 : x = y
    · subst e1
      by_cases e2 : x = z
      · subst e2
        simp only [if_true] at *
        exact ltl_trans h1 h2
      · simp only [if_true, if_neg e2] at *
        exact h2
    · by_cases e2 : y = z
      · subst e2
        simp only [if_true, if_neg e1] at *
        exact h1
      · simp only [if_neg e1, if_neg e2] at h1 h2
        have h3 := lts_trans h1 h2
        rw [if_neg (fun e => by subst e; rw [lts_irrefl] at h3; cases h3)]
        exact h3
theorem ltl_asymm {a b : List Str} (h : ltl a b = true) : ltl b a = false := by
  cases h' : ltl b a with
  | false => rfl
  | true => have := ltl_trans h h'; rw [ltl_irrefl] at this; cases this
theorem ltl_tri : ∀ {a b : List Str}, ltl a b = false → ltl b a = false → a = b
  | [], [], _, _ => rfl
  | [], _ :: _, h, _ => by simp [ltl] at h
  | _ :: _, [], _, h => by simp [ltl] at h
  | x :: xs, y :: ys, h1, h2 => by
    unfold ltl at *
    by_cases e : x = y
    · subst e
      simp only [if_true] at *
      rw [ltl_tri h1 h2]
    · rw [if_neg e] at h1
      rw [if_neg (fun z => e z.symm)] at h2
      exact absurd (lts_tri h1 h2) e

theorem ltA_ss (x y : Str) : ltA (.str x) (.str y) = some (lts x y) := rfl
theorem ltL_ss : ∀ (a b : List Str), ltL (a.map .str) (b.map .str) = some (ltl a b)
  | [], [] => rfl
  | [], _ :: _ => rfl
  | _ :: _, [] => rfl
  | x :: xs, y :: ys => by
    simp only [List.map_cons, ltL_cons, isAtom_str, Bool.and_self, if_true, eqv_ss, ltA_ss, ltL_ss xs ys, ltl, decide_eq_true_eq]
    split <;> rfl
theorem gtL_ss : ∀ (a b : List Str), gtL (a.map .str) (b.map .str) = some (ltl b a)
  | [], [] => rfl
  | [], _ :: _ => rfl
  | _ :: _, [] => rfl
  | x :: xs, y :: ys => by
    simp only [List.map_cons, gtL_cons, isAtom_str, Bool.and_self, if_true, eqv_ss, ltA_ss, gtL_ss xs ys, ltl, decide_eq_true_eq]
    by_cases e : x = y
    · subst e; simp
    · rw [if_neg e, if_neg (fun z => e z.symm)]
theorem ltD_ll (a b : List Str) : ltD (strL a) (strL b) = some (ltl a b) := ltL_ss a b
theorem gtD_ll (a b : List Str) : gtD (strL a) (strL b) = some (ltl b a) := gtL_ss a b

set_option tactic.hygienic true in
/-- what lies between two lists has their common front -/
theorem between : ∀ {a b x : List Str}, ltl x a = false → ltl b x = false → lcp a b <+: x
  | [], _, _, _, _ => by simp [lcp]
  | _ :: _, [], _, _, _ => by simp [lcp]
  | a :: as, b :: bs, [], h1, _ => by simp [ltl] at h1
  | a :: as, b :: bs, x :: xs, h1, h2 => by
    unfold lcp
    split
    · rename_i e
      subst e
      unfold ltl at h1 h2
      by_cases e : x = a
      · subst e
        simp only [if_true] at h1 h2
        exact List.prefix_cons_inj x |>.mpr (between h1 h2)
      · rw [if_neg e] at h1
        rw [if_neg (fun z => e z.symm)] at h2
        exact absurd (lts_tri h1 h2) e
    · exact List.nil_prefix

/-- the least of a list -/
noncomputable def best (lt : List Str → List Str → Bool) : List Str → List (List Str) → List Str
  | b, [] => b
  | b, x :: xs => if lt x b then best lt x xs else best lt b xs
theorem bestD_of {ltd : PyData → PyData → Option Bool} {lt : List Str → List Str → Bool} (h : ∀ a b, ltd (strL a) (strL b) = some (lt a b)) : ∀ (xs : List (List Str)) (b : List Str), bestD ltd (strL b) (xs.map strL) = some (strL (best lt b xs))
  | [], b => rfl
  | x :: xs, b => by
    simp only [List.map_cons, bestD_cons, h, best]
    cases lt x b with
    | true => simp [bestD_of h xs x]
    | false => simp [bestD_of h xs b]
theorem best_mem {lt : List Str → List Str → Bool} : ∀ (xs : List (List Str)) (b : List Str), best lt b xs = b ∨ best lt b xs ∈ xs
  | [], b => .inl rfl
  | x :: xs, b => by
    unfold best
    split
    · rcases best_mem (lt := lt) xs x with h | h
      · exact .inr (by rw [h]; simp)
      · exact .inr (.tail _ h)
    · rcases best_mem (lt := lt) xs b with h | h
      · exact .inl h
      · exact .inr (.tail _ h)
set_option tactic.hygienic true in
theorem best_least {lt : List Str → List Str → Bool} (tr : ∀ {a b c}, lt a b = true → lt b c = true → lt a c = true) (ir : ∀ a, lt a a = false) (tri : ∀ a b, lt a b = false → lt b a = false → a = b) :
    ∀ (xs : List (List Str)) (b : List Str), lt b (best lt b xs) = false ∧ ∀ x ∈ xs, lt x (best lt b xs) = false
  | [], b => ⟨ir b, fun _ h => nomatch h⟩
  | x :: xs, b => by
    unfold best
    split
    · rename_i hx
      obtain ⟨h1, h2⟩ := best_least (lt := lt) tr ir tri xs x
      refine ⟨?_, fun y hy => ?_⟩
      · cases hb : lt b (best lt x xs) with
        | false => rfl
        | true => rw [tr hx hb] at h1; cases h1
      · rcases List.mem_cons.mp hy with rfl | hy
        · exact h1
        · exact h2 y hy
    · rename_i hx
      have hx : lt x b = false := by simpa using hx
      obtain ⟨h1, h2⟩ := best_least (lt := lt) tr ir tri xs b
      refine ⟨h1, fun y hy => ?_⟩
      rcases List.mem_cons.mp hy with rfl | hy
      · cases hy' : lt y (best lt b xs) with
        | false => rfl
        | true =>
          -- best ≤ b ≤ y < best
          cases hb : lt b y with
          | true => rw [tr hb hy'] at h1; cases h1
          | false =>
            have := tri _ _ hx hb
            subst this
            rw [hy'] at h1; cases h1
      · exact h2 y hy

noncomputable def mn : List (List Str) → List Str
  | [] => []
  | x :: xs => best ltl x xs
noncomputable def mx : List (List Str) → List Str
  | [] => []
  | x :: xs => best (fun a b => ltl b a) x xs
theorem bi_min {ls : List (List Str)} (h : ls ≠ []) : biD "min" [.list (ls.map strL)] = some (strL (mn ls)) := by
  cases ls with
  | nil => exact absurd rfl h
  | cons x xs =>
    have : (((x :: xs).map strL).all fun y => ((x :: xs).map strL).all fun z => (ltD y z).isSome) = true := by
      rw [List.all_eq_true]; intro y hy
      rw [List.all_eq_true]; intro z hz
      refine e1_2 (List.mem_map.mp hy) fun a zz ze47 => ?_; subst ze47
      refine e1_2 (List.mem_map.mp hz) fun b zz ze48 => ?_; subst ze48
      rw [ltD_ll]; rfl
    rw [List.map_cons] at this
    have e : biD "min" [.list ((x :: xs).map strL)] = if ((strL x :: xs.map strL).all fun y => (strL x :: xs.map strL).all fun z => (ltD y z).isSome) then bestD ltD (strL x) (xs.map strL) else none := rfl
    rw [e, if_pos this, bestD_of ltD_ll]; rfl
theorem bi_max {ls : List (List Str)} (h : ls ≠ []) : biD "max" [.list (ls.map strL)] = some (strL (mx ls)) := by
  cases ls with
  | nil => exact absurd rfl h
  | cons x xs =>
    have : (((x :: xs).map strL).all fun y => ((x :: xs).map strL).all fun z => (gtD y z).isSome) = true := by
      rw [List.all_eq_true]; intro y hy
      rw [List.all_eq_true]; intro z hz
      refine e1_2 (List.mem_map.mp hy) fun a zz ze49 => ?_; subst ze49
      refine e1_2 (List.mem_map.mp hz) fun b zz ze50 => ?_; subst ze50
      rw [gtD_ll]; rfl
    rw [List.map_cons] at this
    have e : biD "max" [.list ((x :: xs).map strL)] = if ((strL x :: xs.map strL).all fun y => (strL x :: xs.map strL).all fun z => (gtD y z).isSome) then bestD gtD (strL x) (xs.map strL) else none := rfl
    rw [e, if_pos this, bestD_of (lt := fun a b => ltl b a) gtD_ll]; rfl
theorem mn_mem {ls : List (List Str)} (h : ls ≠ []) : mn ls ∈ ls := by
  cases ls with
  | nil => exact absurd rfl h
  | cons x xs => rcases best_mem (lt := ltl) xs x with e | e
                 · show best ltl x xs ∈ _; rw [e]; simp
                 · exact .tail _ e
theorem mx_mem {ls : List (List Str)} (h : ls ≠ []) : mx ls ∈ ls := by
  cases ls with
  | nil => exact absurd rfl h
  | cons x xs => rcases best_mem (lt := fun a b => ltl b a) xs x with e | e
                 · show best (fun a b => ltl b a) x xs ∈ _; rw [e]; simp
                 · exact .tail _ e
theorem mn_least {ls : List (List Str)} : ∀ x ∈ ls, ltl x (mn ls) = false := by
  cases ls with
  | nil => intro x h; cases h
  | cons y ys =>
    have := best_least (lt := ltl) ltl_trans ltl_irrefl (fun _ _ => ltl_tri) ys y
    intro x h
    rcases List.mem_cons.mp h with rfl | h
    · exact this.1
    · exact this.2 x h
theorem mx_most {ls : List (List Str)} : ∀ x ∈ ls, ltl (mx ls) x = false := by
  cases ls with
  | nil => intro x h; cases h
  | cons y ys =>
    have := best_least (lt := fun a b => ltl b a) (fun h1 h2 => ltl_trans h2 h1) ltl_irrefl (fun _ _ h1 h2 => ltl_tri h2 h1) ys y
    intro x h
    rcases List.mem_cons.mp h with rfl | h
    · exact this.1
    · exact this.2 x h
theorem lcp_mn_mx {ls : List (List Str)} (h : ls ≠ []) : lcp (mn ls) (mx ls) = lcpAll ls :=
  pre_anti (lcpAll_most h fun x hx => between (mn_least x hx) (mx_most x hx)) (lcp_most (lcpAll_pre _ (mn_mem h)) (lcpAll_pre _ (mx_mem h)))
end Mine
end

section
open PySem PySem.W PyProof.Rows
namespace Mine
set_option tactic.hygienic false
variable {K : PyData → PyData → PyData → Option PyData}

theorem compL_all {α : Type} {f : PyData → Option (Option PyData)} {g h : α → PyData} : ∀ {xs : List α}, (∀ x ∈ xs, f (g x) = some (some (h x))) → compD f (xs.map g) = some (xs.map h)
  | [], _ => rfl
  | x :: xs, hf => by
    simp only [List.map_cons, compD_cons, hf x (by simp), compL_all (xs := xs) fun y hy => hf y (by simp [hy])]; rfl
theorem compD_filter {f : PyData → Option (Option PyData)} : ∀ {xs : List Str}, (∀ c ∈ xs, f (.str c) = some (if keepC c then some (.str c) else none)) → compD f (xs.map .str) = some ((xs.filter keepC).map .str)
  | [], _ => rfl
  | x :: xs, hf => by
    have ih := compD_filter (xs := xs) fun y hy => hf y (by simp [hy])
    have h1 := hf x (by simp)
    by_cases hk : keepC x = true
    · rw [if_pos hk] at h1
      simp only [List.map_cons, compD_cons, h1, ih, List.filter_cons_of_pos hk]; rfl
    · rw [if_neg hk] at h1
      simp only [List.map_cons, compD_cons, h1, ih, List.filter_cons_of_neg hk]

theorem evL_comp {α : Type} {C : String → List PyData → Option PyData} {ρ : Ro} {elt src : X} {w : String} {xs : List α} {g h : α → PyData} {x : PyData} (hs : evX C K ρ src = some x) (hi : itemsD x = some (xs.map g))
    (he : ∀ y ∈ xs, evX C K (upd ρ w (.val (g y))) elt = some (h y)) : evX C K ρ (.comp elt w src .nil) = some (.list (xs.map h)) := by
  simp only [evX_nil, evX_comp, hs, hi]
  rw [compL_all (h := h) fun y hy => by simp only [evT_nil, he y hy]]
theorem ev_compF {C : String → List PyData → Option PyData} {ρ : Ro} {src cond : X} {w : String} {xs : List Str} {x : PyData} (hs : evX C K ρ src = some x) (hi : itemsD x = some (xs.map .str))
    (he : ∀ y ∈ xs, evT C K (upd ρ w (.val (.str y))) cond (evX C K (upd ρ w (.val (.str y))) cond) = some (keepC y)) : evX C K ρ (.comp (.var w) w src cond) = some (strL (xs.filter keepC)) := by
  simp only [evX_var, evX_comp, hs, hi]
  rw [compD_filter fun y hy => by
    rw [he y hy]
    cases keepC y <;> simp [upd]]
  rfl

theorem ev_setTrue {C : String → List PyData → Option PyData} {ρ : Ro} {src sep : X} {w p : String} {xs : List Str} {x : PyData} (hs : evX C K ρ src = some x) (hi : itemsD x = some (xs.map .str)) (hne : xs ≠ [])
    (he : ∀ y ∈ xs, evX C K (upd ρ p (.val (.str y))) (.meth "startswith" (.var p) [sep]) = some (.bool true)) : exS C K (.setTrue w p src sep) ρ = some (.next, upd ρ w (.val (.bool true))) := by
  cases xs with
  | nil => exact absurd rfl hne
  | cons x0 xr =>
    rw [List.map_cons] at hi
    simp only [exS_setTrue, hs, hi]
    rw [show (PyData.str x0 :: xr.map .str) = (x0 :: xr).map .str from rfl, compL_all (h := fun _ => PyData.bool true) fun y hy => by simp only [he y hy]]
    simp only
    rw [if_pos]
    rw [List.all_eq_true]
    intro y hy
    refine e1_2 (List.mem_map.mp hy) fun z zz ze42 => ?_; subst ze42
    rfl

theorem Runs.try_ {C : String → List PyData → Option PyData} {a r : List S} {ρ : Ro} {d : PyData} (h : Runs C K a ρ d) : Runs C K (.try_ a :: r) ρ d := by
  refine e1_1 (h) fun ρ' h => ?_
  exact ⟨ρ', by simp only [exSs_cons, exS_try, h]⟩

theorem keepC_test {C : String → List PyData → Option PyData} {ρ : Ro} {c : Str} (hc : PyData.strOk c = true) (h1 : ρ "c" = .val (.str c)) (h2 : ρ "curdir" = .val (.str dotS)) :
    evT C K ρ (.bop true [v "c", .cmp .ne (v "c") (v "curdir")]) (evX C K ρ (.bop true [v "c", .cmp .ne (v "c") (v "curdir")])) = some (keepC c) := by
  have hd : PyData.strOk dotS = true := by decide +kernel
  have q := ne_ss hc hd
  unfold keepC
  by_cases hz : c.length = 0
  · simp [evT_bop, evT_var, evTs_cons, evX_var, evX_bop, v, h1, truthyD_str, hz]
  · have hz' : (c.length != 0) = true := by simpa using hz
    simp only [evT_bop, evT_var, evT_cmp, evTs_nil, evTs_cons, evX_var, evX_cmp, evX_bop, v, h1, h2, truthyD_bool, truthyD_str, hz', q, if_true]
    by_cases e : c = dotS
    · simp [e]
    · have : (c == dotS) = false := by simpa using e
      simp [e, this]

/-! ### the walk along the least and the greatest -/
noncomputable def cpBody : List S := [.ite (.cmp .ne (v "c") (.idx (v "s2") (v "i"))) [.assign "common" (.slc (v "s1") .nil (v "i")), .brk] []]
theorem cp_loop {C : String → List PyData → Option PyData} : ∀ (s t p : List Str) (ρ : Ro), ltl t s = false → (∀ x ∈ p ++ s, PyData.strOk x = true) → (∀ x ∈ p ++ t, PyData.strOk x = true) →
    ρ "s1" = .val (strL (p ++ s)) → ρ "s2" = .val (strL (p ++ t)) → ρ "common" = .val (strL (p ++ s)) →
    ∃ ρ', forD (fun d ρ => unpackD ["i", "c"] d ρ) (fun ρ => exSs C K cpBody ρ) (enumD p.length (s.map .str)) ρ = some (.next, ρ') ∧ ρ' "common" = .val (strL (p ++ lcp s t)) ∧ ∀ y, y ≠ "i" → y ≠ "c" → y ≠ "common" → ρ' y = ρ y
  | [], t, p, ρ, _, _, _, _, _, e => ⟨ρ, rfl, by simpa [lcp] using e, fun _ _ _ _ => rfl⟩
  | x :: s, [], p, ρ, h, _, _, _, _, _ => by simp [ltl] at h
  | x :: s, y :: t, p, ρ, h, h1, h2, e1, e2, e3 => by
    have hxo := h1 x (by simp)
    have hyo := h2 y (by simp)
    have q := ne_ss hxo hyo
    have hix : idxD (strL (p ++ y :: t)) (.int (p.length : Nat)) = some (.str y) := by
      simp [strL, idxD_list]
    simp only [List.map_cons, enumD_cons, forD_cons, unpackD_tup, bindAll_nil, bindAll_cons]
    by_cases e : x = y
    · subst e
      have hlt : ltl t s = false := by simpa [ltl] using h
      have hq : cmpD .ne (.str x) (.str x) = some (.bool false) := by rw [q]; simp
      obtain ⟨ρ', g1, g2, g3⟩ := cp_loop (C := C) s t (p ++ [x]) (upd (upd ρ "i" (.val (.int (p.length : Nat)))) "c" (.val (.str x))) hlt (by simpa using h1) (by simpa using h2) (by simp [upd, e1]) (by simp [upd, e2]) (by simp [upd, e3])
      refine ⟨ρ', ?_, by rw [g2]; simp [lcp], fun y y1 y2 y3 => by rw [g3 y y1 y2 y3]; simp [upd, y1, y2]⟩
      have hb : exSs C K cpBody (upd (upd ρ "i" (.val (.int (p.length : Nat)))) "c" (.val (.str x))) = some (.next, upd (upd ρ "i" (.val (.int (p.length : Nat)))) "c" (.val (.str x))) := by
        simp [cpBody, exSs_nil, exSs_cons, exS_ite, evT_cmp, evX_var, evX_cmp, evX_idx, v, upd, e2, hix, hq, truthyD_bool]
      rw [hb]
      have : (p ++ [x]).length = p.length + 1 := by simp
      rw [this] at g1
      exact g1
    · have hq : cmpD .ne (.str x) (.str y) = some (.bool true) := by rw [q]; simp [e]
      have hs : slcD (strL (p ++ x :: s)) .none (.int (p.length : Nat)) = some (strL p) := by
        simp [slcD_list, strL, partD_none, partD_int, cut_to]
      refine ⟨upd (upd (upd ρ "i" (.val (.int (p.length : Nat)))) "c" (.val (.str x))) "common" (.val (strL p)), ?_, by simp [upd, lcp, e], fun y y1 y2 y3 => by simp [upd, y1, y2, y3]⟩
      have hb : exSs C K cpBody (upd (upd ρ "i" (.val (.int (p.length : Nat)))) "c" (.val (.str x))) = some (.brk, upd (upd (upd ρ "i" (.val (.int (p.length : Nat)))) "c" (.val (.str x))) "common" (.val (strL p))) := by
        simp [cpBody, exSs_cons, exS_assign, exS_ite, exS_brk, evT_cmp, evX_nil, evX_var, evX_cmp, evX_idx, evX_slc, v, upd, e1, e2, hix, hq, hs, truthyD_bool]
      rw [hb]

/-- what commonpath takes -/
noncomputable def Way (x : Str) : Prop := (cl x).head? = some 47 ∧ PyData.strOk x = true ∧ x.length ≤ 900 ∧ ∀ c ∈ comps x, Nm c

theorem comps_len (x : Str) : (comps x).length ≤ x.length + 1 := by
  have h6 : (comps x).length ≤ (Txt.split x sl).length := List.length_filter_le _ _
  have := split_count x
  lia

set_option tactic.hygienic true in
theorem cpath_ok (m : Nat) {d : PyData} {xs : List Str} (hd : itemsD d = some (xs.map .str)) (hne : xs ≠ []) (hx : ∀ x ∈ xs, Way x) : callX tabOf K (m + 1) "commonpath" [d] = some (.str (P (lcpAll (xs.map comps)))) := by
  refine call_of (by decide) (show tabOf "commonpath" = some fCommonpath from rfl) rfl ?_
  have hnz : (xs.length != 0) = true := by simpa using hne
  have hcn : xs.map comps ≠ [] := by simpa using hne
  have h0 : ∃ x0, idxD (.tuple (xs.map .str)) (.int 0) = some (.str x0) := by
    refine e2_1 (List.exists_cons_of_ne_nil hne) fun x0 xr ze43 => ?_; subst ze43
    exact ⟨x0, rfl⟩
  refine e1_1 (h0) fun x0 h0 => ?_
  refine Runs.assign (y := .tuple (xs.map .str)) (by simp [evX_var, evX_mapF, v, upd, hd, strsL_map]) ?_
  refine Runs.next (ρ' := upd (upd (fun _ => .no) "paths" (.val d)) "paths" (.val (.tuple (xs.map .str)))) (by simp only [exS_ite, exS_dead, exSs_nil, exSs_cons, evT_not, evT_var, evX_var, evX_not, v, upd, if_true, truthyD_tuple, List.length_map, hnz]; rfl) ?_
  refine Runs.next (by simp [exS_assign, exS_ite, exSs_nil, exSs_cons, evT_isBytes, evX_var, evX_int, evX_str, evX_idx, evX_isBytes, v, upd, truthyD_bool, h0, sl_of, dot_of]; rfl) ?_
  refine Runs.try_ ?_
  refine Runs.assignC (y := .list (xs.map fun x => strL (Txt.split x sl))) (evL_comp (x := .tuple (xs.map .str)) (by simp [evX_var, v, upd]) rfl fun x hxm => ?_) ?_
  · simp [evX_var, evX_meth, evXs_nil, evXs_cons, v, upd, meth_split (x := x) (by have := (hx x hxm).2.2.1; lia), strL]
  refine Runs.next (by
    simp only [exS_try]
    rw [exSs, ev_setTrue (xs := xs) (x := .tuple (xs.map .str)) (by simp [evX_var, v, upd]) rfl hne fun y hy => by
      have := (hx y hy).1
      simp [evX_var, evX_meth, evXs_nil, evXs_cons, v, upd, methD_starts, starts_sl, this]]
    rfl) ?_
  refine Runs.assignC (y := .list (xs.map fun x => strL (comps x))) (evL_comp (x := .list (xs.map fun x => strL (Txt.split x sl))) (by simp [evX_var, v, upd]) rfl fun x hxm => ?_) ?_
  · rw [ev_compF (xs := Txt.split x sl) (x := strL (Txt.split x sl)) (by simp [evX_var, v, upd]) rfl fun c hc => keepC_test (split_ok (hx x hxm).2.1 c hc) (by simp [upd]) (by simp [upd])]
    rfl
  have hcm : (xs.map fun x => strL (comps x)) = (xs.map comps).map strL := by simp
  rw [hcm]
  refine Runs.assign (y := strL (mn (xs.map comps))) (by simp only [evX_var, evX_bi, evXs_nil, evXs_cons, v, upd]; simp only [if_true]; exact bi_min hcn) ?_
  refine Runs.assign (y := strL (mx (xs.map comps))) (by simp only [evX_var, evX_bi, evXs_nil, evXs_cons, v, upd]; simp only [String.reduceEq, if_false, if_true]; exact bi_max hcn) ?_
  refine Runs.assign (y := strL (mn (xs.map comps))) (by simp [evX_var, v, upd]) ?_
  have hN : ∀ l ∈ xs.map comps, (∀ c ∈ l, Nm c) ∧ l.length ≤ 1000 := fun l hl => by
    refine e1_2 (List.mem_map.mp hl) fun x hxm ze44 => ?_; subst ze44
    have := comps_len x
    exact ⟨(hx x hxm).2.2.2, by have := (hx x hxm).2.2.1; lia⟩
  have hn1 := hN _ (mn_mem hcn)
  have hn2 := hN _ (mx_mem hcn)
  obtain ⟨ρ', g1, g2, g3⟩ := cp_loop (K := K) (C := callX tabOf K m) (mn (xs.map comps)) (mx (xs.map comps)) [] (upd (upd (upd (upd (upd (upd (upd (upd (upd (upd (fun _ => .no) "paths" (.val d)) "paths" (.val (.tuple (xs.map .str)))) "sep" (.val (.str sl))) "curdir" (.val (.str dotS))) "split_paths" (.val (.list (xs.map fun x => strL (Txt.split x sl))))) "isabs" (.val (.bool true))) "split_paths" (.val (.list ((xs.map comps).map strL)))) "s1" (.val (strL (mn (xs.map comps))))) "s2" (.val (strL (mx (xs.map comps))))) "common" (.val (strL (mn (xs.map comps)))))
    (mx_most _ (mn_mem hcn)) (fun x hx => (hn1.1 x hx).2.2.2.1) (fun x hx => (hn2.1 x hx).2.2.2.1) (by simp [upd]) (by simp [upd]) (by simp [upd])
  rw [lcp_mn_mx hcn, List.nil_append] at g2
  have hP : (∀ c ∈ lcpAll (xs.map comps), Nm c) ∧ (lcpAll (xs.map comps)).length ≤ 1000 := by
    have := lcpAll_pre _ (mn_mem hcn)
    exact ⟨fun c hc => hn1.1 c (this.subset hc), Nat.le_trans this.length_le hn1.2⟩
  refine Runs.next (ρ' := ρ') (by simp only [exS_forE, evX_var, v, upd]; simp only [String.reduceEq, if_false, if_true]; exact g1) ?_
  refine Runs.assign (y := .str sl) (by simp [evX_var, evX_ite, evT_var, v, upd, g3, truthyD_bool]) ?_
  refine Runs.ret ?_
  have hj := meth_join hP.1 hP.2
  have hb := join_P hP.1 hP.2
  have hsep : ρ' "sep" = .val (.str sl) := by rw [g3 _ (by decide) (by decide) (by decide)]; simp [upd]
  simp [evX_var, evX_bin, evX_meth, evXs_nil, evXs_cons, v, upd, g2, hsep, strL, hj, hb]
end Mine
end

section
open PySem PySem.W PyProof.Rows
namespace Mine
set_option tactic.hygienic false
variable {K : PyData → PyData → PyData → Option PyData}

/-! ### join of two -/
noncomputable def J (a b : Str) : Str := if (cl a).getLast? = some 47 then a ++ b else a ++ (sl ++ b)
theorem join2_ok (m : Nat) {a b : Str} (hb : (cl b).head? ≠ some 47) (ha : a.length ≠ 0) (hla : a.length ≤ 1000) (hlb : b.length ≤ 1000) : callX tabOf K (m + 2) "join" [.str a, .str b] = some (.str (J a b)) := by
  refine call_of (by decide) (show tabOf "join" = some fJoin from rfl) rfl ?_
  have e1 : Txt.startswith b sl = false := by rw [starts_sl]; simpa using hb
  have ha' : (a.length != 0) = true := by simpa using ha
  have hs : sl.length = 1 := rfl
  refine Runs.assign (y := .str a) (by simp [evX_var, evX_call, evXs_nil, evXs_cons, v, upd, call_fsp]) ?_
  refine Runs.assign (y := .str sl) (by simp [evX_var, evX_call, evXs_nil, evXs_cons, v, upd, get_sep]) ?_
  refine Runs.assign (y := .str a) (by simp [evX_var, v, upd]) ?_
  have b1 : binD .add (.str sl) (.str b) = some (.str (sl ++ b)) := by
    simp only [binD_addS]; rw [if_pos (by rw [sizeLine_eq]; lia)]
  by_cases e : (cl a).getLast? = some 47
  · have e2 : Txt.endswith a sl = true := by rw [ends_sl]; simp [e]
    have h1 : a.length + b.length ≤ sizeLine := by rw [sizeLine_eq]; lia
    refine ⟨upd (upd (upd (upd (upd (upd (upd (upd (fun _ => .no) "a" (.val (.str a))) "p" (.val (.tuple [.str b]))) "a" (.val (.str a))) "sep" (.val (.str sl))) "path" (.val (.str a))) "b" (.val (.str b))) "b" (.val (.str b))) "path" (.val (.str (a ++ b))), ?_⟩
    simp [exSs_nil, exSs_cons, exS_assign, exS_aug, exS_ite, exS_for1, exS_ret, exS_try, evT_not, evT_bop, evT_var, evT_meth, evTs_nil, evTs_cons, evX_var, evX_bin, evX_bop, evX_not, evX_call, evX_meth, evXs_nil, evXs_cons, v, upd, itemsD_tup, forD_nil, forD_cons, call_fsp, methD_starts, methD_ends, e1, e2, truthyD_bool, truthyD_str, ha', h1, J, e]
  · have e2 : Txt.endswith a sl = false := by rw [ends_sl]; simpa using e
    have h1 : a.length + (sl ++ b).length ≤ sizeLine := by rw [Str.length_append, sizeLine_eq]; lia
    refine ⟨upd (upd (upd (upd (upd (upd (upd (upd (fun _ => .no) "a" (.val (.str a))) "p" (.val (.tuple [.str b]))) "a" (.val (.str a))) "sep" (.val (.str sl))) "path" (.val (.str a))) "b" (.val (.str b))) "b" (.val (.str b))) "path" (.val (.str (a ++ (sl ++ b)))), ?_⟩
    simp [exSs_nil, exSs_cons, exS_assign, exS_aug, exS_ite, exS_for1, exS_ret, exS_try, evT_not, evT_bop, evT_var, evT_meth, evTs_nil, evTs_cons, evX_var, evX_bin, evX_bop, evX_not, evX_call, evX_meth, evXs_nil, evXs_cons, v, upd, itemsD_tup, forD_nil, forD_cons, call_fsp, methD_starts, methD_ends, e1, e2, truthyD_bool, truthyD_str, ha', h1, J, e, b1]

set_option tactic.hygienic true in
theorem comps_J (a b : Str) : comps (J a b) = comps a ++ comps b := by
  unfold J
  split
  · rename_i e
    obtain ⟨l, hl⟩ := List.getLast?_eq_some_iff.mp e
    have h1 : comps a = comps ⟨l.toArray⟩ ++ comps ⟨#[]⟩ := comps_cat (by rw [hl]; rfl)
    have h2 : comps (a ++ b) = comps ⟨l.toArray⟩ ++ comps b := comps_cat (by rw [cl_append, hl, cl_mk l]; simp)
    rw [h2, h1, comps_nil, List.append_nil]
  · exact comps_cat (by rw [cl_append, cl_append]; rfl)

/-! ### the steps -/
structure StepOk (s : Str) (ps : List Str) : Prop where
  split : Txt.split s sl = ps
  ok : ∀ p ∈ ps, PyData.strOk p = true
  nm : ∀ p ∈ ps, keepC p = true → Nm p
  head : (cl s).head? ≠ some 47
  sok : PyData.strOk s = true
  len : s.length ≤ 5
  cnt : (ps.filter keepC).length ≤ 2
  grow : ∀ ns : List Str, ((ps.filter keepC).foldl nstep ns).length ≤ ns.length + 1

noncomputable def stepS (c : Nat) : List Str := [⟨#[98, 47, 47]⟩, ⟨#[97]⟩, ⟨#[98]⟩, ⟨#[97, 45]⟩, ⟨#[46, 46]⟩, ⟨#[46]⟩, ⟨#[46, 46, 47, 46, 46]⟩, ⟨#[97, 48 + c]⟩]

theorem nm_of {x : Str} (h1 : cl x ≠ []) (h2 : 47 ∉ cl x) (h3 : cl x ≠ [46]) (h4 : ∀ c ∈ cl x, c < 0x110000) (h5 : (cl x).length ≤ 2) : Nm x :=
  ⟨h1, h2, fun e => h3 (by rw [e]; rfl), strOk_cl.mpr h4, by rw [← cl_len]; exact h5⟩

theorem steps_ok {c : Nat} (hc : c < 256) : ∀ s ∈ stepS c, ∃ ps, StepOk s ps := by
  intro s hs
  have one : ∀ x : Str, cl x ≠ [] → 47 ∉ cl x → cl x ≠ [46] → (∀ c ∈ cl x, c < 0x110000) → (cl x).length ≤ 2 → ∃ ps, StepOk x ps := fun x h1 h2 h3 h4 h5 => by
    have hn := nm_of h1 h2 h3 h4 h5
    refine ⟨[x], split_one h2, by simpa using hn.2.2.2.1, by simpa using fun _ => hn, fun e => h2 ?_, hn.2.2.2.1, by have := hn.2.2.2.2; lia, by simp [hn.keep], fun ns => ?_⟩
    · cases hx : cl x with
      | nil => exact absurd hx h1
      | cons a r => rw [hx] at e; simp at e; subst e; simp
    · rw [List.filter_cons_of_pos hn.keep]
      simp only [List.filter_nil, List.foldl_cons, List.foldl_nil, nstep]
      split <;> simp <;> lia
  simp only [stepS, List.mem_cons, List.not_mem_nil, or_false] at hs
  rcases hs with rfl | rfl | rfl | rfl | rfl | rfl | rfl | rfl
  · have hk : keepC ⟨#[98]⟩ = true := by decide
    refine ⟨[⟨#[98]⟩, ⟨#[]⟩, ⟨#[]⟩], split_of (by simp) (by simp [Free, cl]) rfl, by decide +kernel, ?_, by simp [cl], by decide +kernel, by decide, by decide, fun ns => ?_⟩
    · intro p hp hkp
      simp at hp
      rcases hp with rfl | rfl
      · exact nm_of (by simp [cl]) (by simp [cl]) (by simp [cl]) (by simp [cl]) (by simp [cl])
      · exact absurd hkp (by decide)
    · have : List.filter keepC [⟨#[98]⟩, ⟨#[]⟩, ⟨#[]⟩] = [⟨#[98]⟩] := by decide
      rw [this]
      simp only [List.foldl_cons, List.foldl_nil, nstep]
      split <;> simp <;> lia
  · exact one _ (by simp [cl]) (by simp [cl]) (by simp [cl]) (by simp [cl]) (by simp [cl])
  · exact one _ (by simp [cl]) (by simp [cl]) (by simp [cl]) (by simp [cl]) (by simp [cl])
  · exact one _ (by simp [cl]) (by simp [cl]) (by simp [cl]) (by simp [cl]) (by simp [cl])
  · exact one _ (by simp [cl]) (by simp [cl]) (by simp [cl]) (by simp [cl]) (by simp [cl])
  · have hk : keepC ⟨#[46]⟩ = false := by decide
    refine ⟨[⟨#[46]⟩], split_one (by simp [Free, cl]), by decide +kernel, ?_, by simp [cl], by decide +kernel, by decide, by decide, fun ns => ?_⟩
    · intro p hp hkp
      simp at hp; subst hp
      rw [hk] at hkp; cases hkp
    · have : List.filter keepC [⟨#[46]⟩] = [] := by decide
      rw [this]; simp
  · refine ⟨[⟨#[46, 46]⟩, ⟨#[46, 46]⟩], split_of (by simp) (by simp [Free, cl]) rfl, by decide +kernel, ?_, by simp [cl], by decide +kernel, by decide, by decide, fun ns => ?_⟩
    · intro p hp hkp
      simp at hp; subst hp
      exact nm_of (by simp [cl]) (by simp [cl]) (by simp [cl]) (by simp [cl]) (by simp [cl])
    · have : List.filter keepC [⟨#[46, 46]⟩, ⟨#[46, 46]⟩] = [ddS, ddS] := by decide
      rw [this]
      simp [nstep]; lia
  · exact one _ (by simp [cl]) (by simp [cl]; lia) (by simp [cl]) (by simp [cl]; lia) (by simp [cl])
end Mine
end

section
open PySem PySem.W PyProof.Rows
namespace Mine
set_option tactic.hygienic false
variable {K : PyData → PyData → PyData → Option PyData}

/-! ### what _law_drawn holds -/
structure Dr (k : Nat) (x : Str) (qs ns : List Str) : Prop where
  root : ∃ r, cl x = 47 :: r ∧ r.head? ≠ some 47
  sok : PyData.strOk x = true
  len : x.length ≤ 1 + 6 * k
  cmp : comps x = qs
  nm : ∀ c ∈ qs, Nm c
  pos : ns = qs.foldl nstep []
  nlen : ns.length ≤ k
  qlen : qs.length ≤ 2 * k

theorem Dr.start : Dr 0 sl [] [] := ⟨⟨[], rfl, by simp⟩, by decide +kernel, by decide, by rw [← P_nil]; exact comps_P (by simp), by simp, rfl, by simp, by simp⟩

theorem J_cl (a b : Str) : cl (J a b) = cl a ++ ((if (cl a).getLast? = some 47 then [] else [47]) ++ cl b) := by
  unfold J
  split
  · rw [cl_append]; rfl
  · rw [cl_append, cl_append]; rfl

theorem Dr.step {k : Nat} {x s : Str} {qs ns ps : List Str} (h : Dr k x qs ns) (hs : StepOk s ps) : Dr (k + 1) (J x s) (qs ++ ps.filter keepC) ((ps.filter keepC).foldl nstep ns) := by
  refine e1_2 (h.root) fun r e1 e2 => ?_
  refine ⟨?_, ?_, ?_, ?_, ?_, ?_, ?_, ?_⟩
  · rw [J_cl, e1]
    refine ⟨_, rfl, ?_⟩
    cases r with
    | nil => simpa using hs.head
    | cons a r => simpa using e2
  · rw [strOk_cl, J_cl]
    intro c hc
    rcases List.mem_append.mp hc with hc | hc
    · exact strOk_cl.mp h.sok c hc
    · rcases List.mem_append.mp hc with hc | hc
      · split at hc
        · cases hc
        · simp at hc; subst hc; decide
      · exact strOk_cl.mp hs.sok c hc
  · have h1 := h.len
    have h2 := hs.len
    rw [← cl_len] at h1 h2 ⊢
    rw [J_cl]
    split <;> simp <;> lia
  · rw [comps_J, h.cmp]
    congr 1
    unfold comps
    rw [hs.split]
  · intro c hc
    rcases List.mem_append.mp hc with hc | hc
    · exact h.nm c hc
    · refine e0_2 (List.mem_filter.mp hc) fun h1 h2 => ?_
      exact hs.nm c h1 h2
  · rw [List.foldl_append, ← h.pos]
  · have := hs.grow ns
    have := h.nlen
    lia
  · have := hs.cnt
    have := h.qlen
    rw [List.length_append]; lia

noncomputable def drBody : List S := [
      .ite (.cmp .notin (v "piece") (.list [.str "", .str "."])) [
        .assign "pieces" (.bin .add (v "pieces") (.list [v "piece"])),
        .assign "names" (.ite (.cmp .eq (v "piece") (.str "..")) (.slc (v "names") .nil (.neg (.int 1))) (.bin .add (v "names") (.list [v "piece"])))] []]

theorem keepC_iff (c : Str) : keepC c = (!(decide (eS = c) || decide (dotS = c))) := by
  unfold keepC
  have h1 : (c.length != 0) = !decide (eS = c) := by
    rw [Bool.eq_iff_iff]
    simp only [bne_iff_ne, Bool.not_eq_true', decide_eq_false_iff_not, ne_eq]
    refine not_congr ⟨fun e => cl_inj ?_, fun e => by rw [← e]; rfl⟩
    rw [← cl_len] at e
    rw [List.eq_nil_of_length_eq_zero e]; rfl
  have h2 : (c == dotS) = decide (dotS = c) := by
    rw [Bool.eq_iff_iff]
    simp only [beq_iff_eq, decide_eq_true_eq]
    exact ⟨Eq.symm, Eq.symm⟩
  rw [h1, h2]; simp

theorem add_one {l : List Str} {c : Str} (hl : l.length ≤ 1000) : binD .add (strL l) (.list [.str c]) = some (strL (l ++ [c])) := by
  simp only [binD_addL, strL]; rw [if_pos (by simp [sizeLine_eq]; lia)]; simp

theorem dr_in {C : String → List PyData → Option PyData} : ∀ (ps qs ns : List Str) (ρ : Ro), (∀ p ∈ ps, PyData.strOk p = true) → qs.length + ps.length ≤ 1000 → ns.length + ps.length ≤ 1000 →
    ρ "pieces" = .val (strL qs) → ρ "names" = .val (strL ns) →
    ∃ ρ', forD (fun d ρ => some (upd ρ "piece" (.val d))) (fun ρ => exSs C K drBody ρ) (ps.map .str) ρ = some (.next, ρ') ∧ ρ' "pieces" = .val (strL (qs ++ ps.filter keepC)) ∧ ρ' "names" = .val (strL ((ps.filter keepC).foldl nstep ns)) ∧
      ∀ y, y ≠ "piece" → y ≠ "pieces" → y ≠ "names" → ρ' y = ρ y
  | [], qs, ns, ρ, _, _, _, e1, e2 => ⟨ρ, rfl, by simpa using e1, by simpa using e2, fun _ _ _ _ => rfl⟩
  | c :: ps, qs, ns, ρ, h, hq, hn, e1, e2 => by
    simp only [List.length_cons] at hq hn
    have hc := h c (by simp)
    have hd : PyData.strOk dotS = true := by decide +kernel
    have hdd : PyData.strOk ddS = true := by decide +kernel
    have he : PyData.strOk eS = true := by decide +kernel
    have hE : Str.ofString "" = eS := emp_of
    have q : cmpD .notin (.str c) (.list [.str eS, .str dotS]) = some (.bool (keepC c)) := by
      simp [cmpD_nin, shal_str, hc, hd, he, eqv_ss, keepC_iff]
    have q2 := eq_ss hc hdd
    simp only [List.map_cons, forD_cons]
    cases hk : keepC c with
    | false =>
      obtain ⟨ρ', g1, g2, g3, g4⟩ := dr_in (C := C) ps qs ns (upd ρ "piece" (.val (.str c))) (fun p hp => h p (by simp [hp])) (by lia) (by lia) (by simp [upd, e1]) (by simp [upd, e2])
      rw [List.filter_cons_of_neg (by simp [hk])]
      refine ⟨ρ', ?_, g2, g3, fun y y1 y2 y3 => by rw [g4 y y1 y2 y3]; simp [upd, y1]⟩
      have hb : exSs C K drBody (upd ρ "piece" (.val (.str c))) = some (.next, upd ρ "piece" (.val (.str c))) := by
        rw [hk] at q
        simp [drBody, exSs_nil, exSs_cons, exS_ite, evT_cmp, evX_var, evX_str, evX_cmp, evX_list, evXs_nil, evXs_cons, v, upd, hE, dot_of, q, truthyD_bool]
      rw [hb]; exact g1
    | true =>
      have hb : exSs C K drBody (upd ρ "piece" (.val (.str c))) = some (.next, upd (upd (upd ρ "piece" (.val (.str c))) "pieces" (.val (strL (qs ++ [c])))) "names" (.val (strL (nstep ns c)))) := by
        rw [hk] at q
        have b1 := add_one (l := qs) (c := c) (by lia)
        have b2 := add_one (l := ns) (c := c) (by lia)
        have b3 : slcD (strL ns) .none (.int (-1)) = some (strL ns.dropLast) := by simp [slcD_list, strL, partD_none, partD_int, cut_drop]
        by_cases e : c = ddS
        · subst e
          simp only [decide_true] at q2
          simp [drBody, exSs_nil, exSs_cons, exS_assign, exS_ite, evT_cmp, evX_nil, evX_var, evX_int, evX_str, evX_bin, evX_neg, evX_cmp, evX_ite, evX_list, evX_slc, evXs_nil, evXs_cons, v, upd, hE, dot_of, dd_of, q, truthyD_bool, e1, e2, b1, b3, q2, nstep]
        · simp only [e, decide_false] at q2
          simp [drBody, exSs_nil, exSs_cons, exS_assign, exS_ite, evT_cmp, evX_var, evX_str, evX_bin, evX_cmp, evX_ite, evX_list, evXs_nil, evXs_cons, v, upd, hE, dot_of, dd_of, q, truthyD_bool, e1, e2, b1, b2, q2, nstep, e]
      obtain ⟨ρ', g1, g2, g3, g4⟩ := dr_in (C := C) ps (qs ++ [c]) (nstep ns c) (upd (upd (upd ρ "piece" (.val (.str c))) "pieces" (.val (strL (qs ++ [c])))) "names" (.val (strL (nstep ns c)))) (fun p hp => h p (by simp [hp])) (by simp; lia) (by
        have : (nstep ns c).length ≤ ns.length + 1 := by unfold nstep; split <;> simp <;> lia
        lia) (by simp [upd]) (by simp [upd])
      rw [List.filter_cons_of_pos hk]
      refine ⟨ρ', ?_, by rw [g2]; simp, by rw [g3]; rfl, fun y y1 y2 y3 => by rw [g4 y y1 y2 y3]; simp [upd, y1, y2, y3]⟩
      rw [hb]; exact g1
end Mine
end

section
open PySem PySem.W PyProof.Rows
namespace Mine
set_option tactic.hygienic false
variable {K : PyData → PyData → PyData → Option PyData}

noncomputable def drList : X := .list [.str "b//", .str "a", .str "b", .str "a-", .str "..", .str ".", .str "../..",
        .bin .add (.str "a") (.bi "chr" [.bin .add (.int 48) (.bin .mod (.bin .fdiv (.bi "abs" [v "number"]) (.int 585)) (.int 256))])]
noncomputable def drTest : X := .cmp .gt (v "left") (.int 0)
noncomputable def drWhole : List S := [
    .assign "step" (.idx drList (.bin .mod (v "left") (.int 8))),
    .assign "spelled" (.call "join" [v "spelled", v "step"]),
    .for1 "piece" (.meth "split" (v "step") [.str "/"]) drBody,
    .assign "left" (.bin .fdiv (.bin .sub (v "left") (.int 1)) (.int 8))]

noncomputable def sig (n : Int) : Nat := n.natAbs / 585 % 256
theorem sig_lt (n : Int) : sig n < 256 := Nat.mod_lt _ (by decide)

theorem dr_list {C : String → List PyData → Option PyData} {ρ : Ro} {n : Int} (h : ρ "number" = .val (.int n)) : evX C K ρ drList = some (.list ((stepS (sig n)).map .str)) := by
  have o1 : Str.ofString "b//" = ⟨#[98, 47, 47]⟩ := by decide +kernel
  have o2 : Str.ofString "a" = ⟨#[97]⟩ := by decide +kernel
  have o3 : Str.ofString "b" = ⟨#[98]⟩ := by decide +kernel
  have o4 : Str.ofString "a-" = ⟨#[97, 45]⟩ := by decide +kernel
  have o5 : Str.ofString ".." = ⟨#[46, 46]⟩ := by decide +kernel
  have o6 : Str.ofString "." = ⟨#[46]⟩ := by decide +kernel
  have o7 : Str.ofString "../.." = ⟨#[46, 46, 47, 46, 46]⟩ := by decide +kernel
  have hs := sig_lt n
  have b0 : biD "abs" [.int n] = some (.int (n.natAbs : Nat)) := by simp [biD_abs]
  have b1 : binD .fdiv (.int (n.natAbs : Nat)) (.int 585) = some (.int ((n.natAbs / 585 : Nat) : Int)) := by simp [binD_fdiv]
  have b2 : binD .mod (.int ((n.natAbs / 585 : Nat) : Int)) (.int 256) = some (.int ((sig n : Nat) : Int)) := by
    simp only [binD_mod]; rw [if_pos (by decide)]; unfold sig; rw [Int.natCast_emod]; rfl
  have b3 : binD .add (.int 48) (.int ((sig n : Nat) : Int)) = some (.int ((48 + sig n : Nat) : Int)) := by simp [binD_addI]
  have b4 : biD "chr" [.int ((48 + sig n : Nat) : Int)] = some (.str ⟨#[48 + sig n]⟩) := by
    have : (decide ((0 : Int) ≤ ((48 + sig n : Nat) : Int)) && decide (((48 + sig n : Nat) : Int) < 1000)) = true := by simp; lia
    simp only [biD_chr, if_true, this, Int.toNat_natCast]
  have b5 : binD .add (.str ⟨#[97]⟩) (.str ⟨#[48 + sig n]⟩) = some (.str ⟨#[97, 48 + sig n]⟩) := by
    simp only [binD_addS]; rw [if_pos (by rw [sizeLine_eq]; show 1 + 1 ≤ _; lia)]
    rfl
  simp only [drList, evX_var, evX_int, evX_str, evX_bin, evX_list, evX_bi, evXs_nil, evXs_cons, v, h, o1, o2, o3, o4, o5, o6, o7, b0, b1, b2, b3, b4, b5]
  rfl

noncomputable def lid : Nat → Nat
  | 0 => 1
  | j + 1 => 8 * lid j + 1

theorem dr_out (m : Nat) {n : Int} : ∀ (j L k : Nat) (x : Str) (qs ns : List Str) (ρ : Ro) (fuel : Nat), L < lid j → j < fuel → k + j ≤ 3 → Dr k x qs ns →
    ρ "left" = .val (.int (L : Nat)) → ρ "spelled" = .val (.str x) → ρ "pieces" = .val (strL qs) → ρ "names" = .val (strL ns) → ρ "number" = .val (.int n) →
    ∃ ρ' y ps ms, whileD (fun ρ => evT (callX tabOf K (m + 2)) K ρ drTest (evX (callX tabOf K (m + 2)) K ρ drTest)) (fun ρ => exSs (callX tabOf K (m + 2)) K drWhole ρ) fuel ρ = some (.next, ρ') ∧
      Dr 3 y ps ms ∧ ρ' "spelled" = .val (.str y) ∧ ρ' "pieces" = .val (strL ps) ∧ ρ' "names" = .val (strL ms) ∧ ρ' "number" = .val (.int n)
  | j, L, k, x, qs, ns, ρ, 0, _, hf, _, _, _, _, _, _, _ => absurd hf (by lia)
  | j, L, k, x, qs, ns, ρ, fuel + 1, hL, hf, hk, hd, e1, e2, e3, e4, e5 => by
    by_cases hz : L = 0
    · subst hz
      refine ⟨ρ, x, qs, ns, ?_, ⟨hd.root, hd.sok, by have := hd.len; lia, hd.cmp, hd.nm, hd.pos, by have := hd.nlen; lia, by have := hd.qlen; lia⟩, e2, e3, e4, e5⟩
      unfold whileD
      simp [drTest, evT_cmp, evX_var, evX_int, evX_cmp, v, e1, cmpD_gt, gtD_int, truthyD_bool]
    · cases j with
      | zero => simp [lid] at hL; lia
      | succ j =>
        simp only [lid] at hL
        have hmod : L % 8 < 8 := Nat.mod_lt _ (by decide)
        have hlen : (stepS (sig n)).length = 8 := rfl
        have hmem : (stepS (sig n))[L % 8]'(by lia) ∈ stepS (sig n) := List.getElem_mem _
        generalize hs : (stepS (sig n))[L % 8]'(by lia) = s at hmem
        refine e1_1 (steps_ok (sig_lt n) s hmem) fun ps hps => ?_
        have hcell : idxD (.list ((stepS (sig n)).map .str)) (.int ((L % 8 : Nat) : Int)) = some (.str s) := by
          simp only [idxD_list]
          rw [if_pos (by lia), Int.toNat_natCast, List.getElem?_map, List.getElem?_eq_getElem (by lia), hs]; rfl
        have b1 : binD .mod (.int (L : Nat)) (.int 8) = some (.int ((L % 8 : Nat) : Int)) := by
          simp only [binD_mod]; rw [if_pos (by decide), Int.natCast_emod]; rfl
        have b2 : binD .sub (.int (L : Nat)) (.int 1) = some (.int ((L - 1 : Nat) : Int)) := by
          simp only [binD_sub]; congr 2; lia
        have b3 : binD .fdiv (.int ((L - 1 : Nat) : Int)) (.int 8) = some (.int (((L - 1) / 8 : Nat) : Int)) := by
          simp only [binD_fdiv]; rw [if_pos (by decide), Int.natCast_ediv]; rfl
        have hx : x.length ≠ 0 := by
          refine e1_2 (hd.root) fun r e zz => ?_
          rw [← cl_len, e]; simp
        have hj := join2_ok (K := K) m (a := x) (b := s) hps.head hx (by have := hd.len; lia) (by have := hps.len; lia)
        have hsp : methD "split" (.str s) [.str sl] = some (.list (ps.map .str)) := by rw [meth_split (by have := hps.len; lia), hps.split]
        have hpl : ps.length ≤ 6 := by
          rw [← hps.split]
          have := split_count s
          have := hps.len
          lia
        obtain ⟨ρ₁, g1, g2, g3, g4⟩ := dr_in (K := K) (C := callX tabOf K (m + 2)) ps qs ns (upd (upd ρ "step" (.val (.str s))) "spelled" (.val (.str (J x s)))) hps.ok (by have := hd.qlen; lia) (by have := hd.nlen; lia) (by simp [upd, e3]) (by simp [upd, e4])
        obtain ⟨ρ', y, ps', ms, h1, h2, h3, h4, h5, h6⟩ := dr_out m (n := n) j ((L - 1) / 8) (k + 1) (J x s) _ _ (upd ρ₁ "left" (.val (.int (((L - 1) / 8 : Nat) : Int)))) fuel (by lia) (by lia) (by lia) (hd.step hps) (by simp [upd]) (by simp [upd, g4]) (by simp [upd, g2]) (by simp [upd, g3]) (by simp [upd, g4, e5])
        refine ⟨ρ', y, ps', ms, ?_, h2, h3, h4, h5, h6⟩
        unfold whileD
        have ht : evT (callX tabOf K (m + 2)) K ρ drTest (evX (callX tabOf K (m + 2)) K ρ drTest) = some true := by
          simp [drTest, evT_cmp, evX_var, evX_int, evX_cmp, v, e1, cmpD_gt, gtD_int, truthyD_bool]; lia
        have hb : exSs (callX tabOf K (m + 2)) K drWhole ρ = some (.next, upd ρ₁ "left" (.val (.int (((L - 1) / 8 : Nat) : Int)))) := by
          have a1 : exS (callX tabOf K (m + 2)) K (.assign "step" (.idx drList (.bin .mod (v "left") (.int 8)))) ρ = some (.next, upd ρ "step" (.val (.str s))) := by
            simp only [exS_assign, evX_var, evX_int, evX_bin, evX_idx, dr_list e5, v, e1, b1, hcell]
          have a2 : exS (callX tabOf K (m + 2)) K (.assign "spelled" (.call "join" [v "spelled", v "step"])) (upd ρ "step" (.val (.str s))) = some (.next, upd (upd ρ "step" (.val (.str s))) "spelled" (.val (.str (J x s)))) := by
            simp [exS_assign, evX_var, evX_call, evXs_nil, evXs_cons, v, upd, e2, hj]
          have a3 : exS (callX tabOf K (m + 2)) K (.for1 "piece" (.meth "split" (v "step") [.str "/"]) drBody) (upd (upd ρ "step" (.val (.str s))) "spelled" (.val (.str (J x s)))) = some (.next, ρ₁) := by
            have : evX (callX tabOf K (m + 2)) K (upd (upd ρ "step" (.val (.str s))) "spelled" (.val (.str (J x s)))) (.meth "split" (v "step") [.str "/"]) = some (.list (ps.map .str)) := by
              simp [evX_var, evX_str, evX_meth, evXs_nil, evXs_cons, v, upd, sl_of, hsp]
            (first | rw [exS_assign] | rw [exS_assignC] | rw [exS_setTrue] | rw [exS_unpack] | rw [exS_swap] | rw [exS_swapOwn] | rw [exS_swapComp] | rw [exS_newOwn] | rw [exS_freeze] | rw [exS_append] | rw [exS_pop] | rw [exS_aug] | rw [exS_ite] | rw [exS_whl] | rw [exS_for1] | rw [exS_forT] | rw [exS_forR] | rw [exS_forE] | rw [exS_ret] | rw [exS_brk] | rw [exS_cont] | rw [exS_try] | rw [exS_dead])
            simp only [this, itemsD_list]
            exact g1
          have a4 : exS (callX tabOf K (m + 2)) K (.assign "left" (.bin .fdiv (.bin .sub (v "left") (.int 1)) (.int 8))) ρ₁ = some (.next, upd ρ₁ "left" (.val (.int (((L - 1) / 8 : Nat) : Int)))) := by
            have : ρ₁ "left" = .val (.int (L : Nat)) := by rw [g4 _ (by decide) (by decide) (by decide)]; simp [upd, e1]
            simp only [exS_assign, evX_var, evX_int, evX_bin, v, this, b2, b3]
          simp only [drWhole, exSs_nil, exSs_cons, a1, a2, a3, a4]
        simp only [ht, hb]
        exact h1

noncomputable def drD (n : Int) (x : Str) (qs ns : List Str) : PyData := .tuple [.str x, strL qs, strL ns, .int n]

set_option tactic.hygienic true in
theorem drawn_ok (m : Nat) (n : Int) : ∃ x qs ns, Dr 3 x qs ns ∧ callX tabOf K (m + 3) "_law_drawn" [.int n] = some (drD n x qs ns) := by
  have b0 : biD "abs" [.int n] = some (.int (n.natAbs : Nat)) := by simp [biD_abs]
  have b1 : binD .mod (.int (n.natAbs : Nat)) (.int 585) = some (.int ((n.natAbs % 585 : Nat) : Int)) := by
    simp only [binD_mod]; rw [if_pos (by decide), Int.natCast_emod]; rfl
  obtain ⟨ρ', y, ps, ms, h1, h2, h3, h4, h5, h6⟩ := dr_out (K := K) m (n := n) 3 (n.natAbs % 585) 0 sl [] [] (upd (upd (upd (upd (upd (fun _ => .no) "number" (.val (.int n))) "spelled" (.val (.str sl))) "pieces" (.val (strL []))) "names" (.val (strL []))) "left" (.val (.int ((n.natAbs % 585 : Nat) : Int)))) WN
    (by simp only [lid]; lia) (by unfold WN; lia) (by lia) Dr.start (by simp [upd]) (by simp [upd]) (by simp [upd]) (by simp [upd]) (by simp [upd])
  refine ⟨y, ps, ms, h2, ?_⟩
  refine call_of (by decide) (show tabOf "_law_drawn" = some fDrawn from rfl) rfl ?_
  refine Runs.next (ρ' := upd (upd (upd (upd (upd (fun _ => .no) "number" (.val (.int n))) "spelled" (.val (.str sl))) "pieces" (.val (strL []))) "names" (.val (strL []))) "left" (.val (.int ((n.natAbs % 585 : Nat) : Int)))) ?_ ?_
  · have hv : (upd (fun _ => AV.no) "number" (.val (.int n))) "number" = .val (.int n) := rfl
    simp only [exS_unpack, evX_var, evX_int, evX_str, evX_bin, evX_list, evX_tup, evX_bi, evXs_nil, evXs_cons, v, hv, b0, b1, sl_of, unpackD_tup, bindAll_nil, bindAll_cons]
    rfl
  refine Runs.next (ρ' := ρ') (by (first | rw [exS_assign] | rw [exS_assignC] | rw [exS_setTrue] | rw [exS_unpack] | rw [exS_swap] | rw [exS_swapOwn] | rw [exS_swapComp] | rw [exS_newOwn] | rw [exS_freeze] | rw [exS_append] | rw [exS_pop] | rw [exS_aug] | rw [exS_ite] | rw [exS_whl] | rw [exS_for1] | rw [exS_forT] | rw [exS_forR] | rw [exS_forE] | rw [exS_ret] | rw [exS_brk] | rw [exS_cont] | rw [exS_try] | rw [exS_dead]); exact h1) ?_
  refine Runs.ret ?_
  simp [evX_var, evX_tup, evXs_nil, evXs_cons, v, h3, h4, h5, h6, drD]
end Mine
end

section
open PySem PySem.W PyProof.Rows
namespace Mine
set_option tactic.hygienic false

/-! ### the comparer over rows -/
noncomputable abbrev Rw := Int × List Str
noncomputable def padAt (ns : List Str) (i : Nat) : Str := ns[i]?.getD eS
noncomputable def sgI (a b : Int) : Int := if a < b then -1 else if b < a then 1 else 0
noncomputable def sgS (a b : Str) : Int := if lts a b then -1 else if lts b a then 1 else 0
/-- how the column tells two rows -/
noncomputable def cc (i : Nat) (a b : Rw) : Int := match i with
  | 0 => sgI a.1 b.1
  | i + 1 => sgS (padAt a.2 i) (padAt b.2 i)
noncomputable def kv : List (Nat × Int) → Rw → Rw → Int
  | [], _, _ => 0
  | k :: ks, a, b => if cc k.1 a b = 0 then kv ks a b else k.2 * cc k.1 a b
noncomputable def tk (k : Nat × Int) : PyData := .tuple [.int (k.1 : Nat), .int k.2]
noncomputable def rD (a : Rw) : PyData := rowD a.1 a.2

theorem row_at {a : Rw} (hl : a.2.length ≤ 3) : idxD (rD a) (.int (0 : Nat)) = some (.int a.1) ∧ ∀ i, i < 3 → idxD (rD a) (.int ((i + 1 : Nat) : Int)) = some (.str (padAt a.2 i)) := by
  obtain ⟨n, ns⟩ := a
  refine ⟨rfl, fun i hi => ?_⟩
  have h1 : (padL ns).length = 3 := by simp only [padL, List.length_append, List.length_replicate]; simp only at hl; lia
  have h2 : (padL ns)[i]? = some (padAt ns i) := by
    unfold padAt padL
    simp only at hl
    by_cases h : i < ns.length
    · rw [List.getElem?_append_left h, List.getElem?_eq_getElem h]; rfl
    · rw [List.getElem?_append_right (by lia), List.getElem?_replicate, if_pos (by lia), List.getElem?_eq_none (by lia)]; rfl
  simp only [rD, rowD, idxD_tup, rowL]
  rw [if_pos (by lia), Int.toNat_natCast]
  show ((padL ns).map PyData.str ++ [PyData.str (P ns)])[i]? = _
  rw [List.getElem?_append_left (by simp; lia), List.getElem?_map, h2]; rfl

theorem sg_lt {p q : Bool} {z : Int} (h : p = true → q = false) (hz : z = if p then -1 else if q then 1 else 0) : decide (z = -1) = p ∧ decide (z = 1) = q := by
  subst hz
  cases p with
  | true => rw [h rfl]; decide
  | false => cases q <;> decide

theorem cell_at {i : Nat} (hi : i ≤ 3) {a b : Rw} (ha : a.2.length ≤ 3) (hb : b.2.length ≤ 3) : ∃ x y, idxD (rD a) (.int (i : Nat)) = some x ∧ idxD (rD b) (.int (i : Nat)) = some y ∧
    cmpD .lt x y = some (.bool (decide (cc i a b = -1))) ∧ cmpD .gt x y = some (.bool (decide (cc i a b = 1))) := by
  cases i with
  | zero =>
    obtain ⟨h1, h2⟩ := sg_lt (p := decide (a.1 < b.1)) (q := decide (b.1 < a.1)) (z := cc 0 a b) (by simp; lia) (by simp [cc, sgI])
    exact ⟨_, _, (row_at ha).1, (row_at hb).1, by rw [h1]; rfl, by rw [h2]; rfl⟩
  | succ i =>
    obtain ⟨h1, h2⟩ := sg_lt (p := lts (padAt a.2 i) (padAt b.2 i)) (q := lts (padAt b.2 i) (padAt a.2 i)) (z := cc (i + 1) a b) lts_asymm (by simp [cc, sgS])
    exact ⟨_, _, (row_at ha).2 i (by lia), (row_at hb).2 i (by lia), by rw [h1]; rfl, by rw [h2]; rfl⟩

theorem cc_cases (i : Nat) (a b : Rw) : cc i a b = -1 ∨ cc i a b = 0 ∨ cc i a b = 1 := by
  unfold cc
  split
  · unfold sgI; split
    · simp
    · split <;> simp
  · unfold sgS; split
    · simp
    · split <;> simp

noncomputable def cmpBody : List S := [
    .assign "l" (.idx (v "left") (v "index")),
    .assign "r" (.idx (v "right") (v "index")),
    .ite (.cmp .lt (v "l") (v "r")) [.ret (.neg (v "direction"))] [],
    .ite (.cmp .gt (v "l") (v "r")) [.ret (v "direction")] []]

theorem cmp_loop {C : String → List PyData → Option PyData} {K : PyData → PyData → PyData → Option PyData} {a b : Rw} (ha : a.2.length ≤ 3) (hb : b.2.length ≤ 3) : ∀ (ks : List (Nat × Int)) (ρ : Ro), (∀ k ∈ ks, k.1 ≤ 3) → ρ "left" = .val (rD a) → ρ "right" = .val (rD b) →
    ∃ ρ', forD (fun d ρ => unpackD ["index", "direction"] d ρ) (fun ρ => exSs C K cmpBody ρ) (ks.map tk) ρ = some (.ret (.int (kv ks a b)), ρ') ∨
      (forD (fun d ρ => unpackD ["index", "direction"] d ρ) (fun ρ => exSs C K cmpBody ρ) (ks.map tk) ρ = some (.next, ρ') ∧ kv ks a b = 0)
  | [], ρ, _, _, _ => ⟨ρ, .inr ⟨rfl, rfl⟩⟩
  | (i, w) :: ks, ρ, h, e1, e2 => by
    have hi : i ≤ 3 := h (i, w) (by simp)
    refine e2_4 (cell_at hi ha hb) fun x y x1 y1 h1 h2 => ?_
    simp only [List.map_cons, forD_cons, tk, unpackD_tup, bindAll_nil, bindAll_cons]
    generalize hρ : upd (upd ρ "index" (.val (.int (i : Nat)))) "direction" (.val (.int w)) = ρ₁
    have f1 : ρ₁ "left" = .val (rD a) := by rw [← hρ]; simp [upd, e1]
    have f2 : ρ₁ "right" = .val (rD b) := by rw [← hρ]; simp [upd, e2]
    have f3 : ρ₁ "index" = .val (.int (i : Nat)) := by rw [← hρ]; simp [upd]
    have f4 : ρ₁ "direction" = .val (.int w) := by rw [← hρ]; simp [upd]
    have s1 : exS C K (.assign "l" (.idx (v "left") (v "index"))) ρ₁ = some (.next, upd ρ₁ "l" (.val x)) := by
      simp only [exS_assign, evX_var, evX_idx, v, f1, f3, x1]
    have s2 : exS C K (.assign "r" (.idx (v "right") (v "index"))) (upd ρ₁ "l" (.val x)) = some (.next, upd (upd ρ₁ "l" (.val x)) "r" (.val y)) := by
      have g1 : upd ρ₁ "l" (.val x) "right" = .val (rD b) := by simp [upd, f2]
      have g2 : upd ρ₁ "l" (.val x) "index" = .val (.int (i : Nat)) := by simp [upd, f3]
      simp only [exS_assign, evX_var, evX_idx, v, g1, g2, y1]
    generalize hρ₂ : upd (upd ρ₁ "l" (.val x)) "r" (.val y) = ρ₂ at s2
    have g1 : ρ₂ "l" = .val x := by rw [← hρ₂]; simp [upd]
    have g2 : ρ₂ "r" = .val y := by rw [← hρ₂]; simp [upd]
    have g3 : ρ₂ "direction" = .val (.int w) := by rw [← hρ₂]; simp [upd, f4]
    have g4 : ρ₂ "left" = .val (rD a) := by rw [← hρ₂]; simp [upd, f1]
    have g5 : ρ₂ "right" = .val (rD b) := by rw [← hρ₂]; simp [upd, f2]
    have t1 : evT C K ρ₂ (.cmp .lt (v "l") (v "r")) (evX C K ρ₂ (.cmp .lt (v "l") (v "r"))) = some (decide (cc i a b = -1)) := by
      simp only [evX_var, evX_cmp, v, g1, g2, h1, evT_cmp, truthyD_bool]
    have t2 : evT C K ρ₂ (.cmp .gt (v "l") (v "r")) (evX C K ρ₂ (.cmp .gt (v "l") (v "r"))) = some (decide (cc i a b = 1)) := by
      simp only [evX_var, evX_cmp, v, g1, g2, h2, evT_cmp, truthyD_bool]
    have hb' : exSs C K cmpBody ρ₁ = (if cc i a b = 0 then some (.next, ρ₂) else some (.ret (.int (w * cc i a b)), ρ₂)) := by
      have s3 : exS C K (.ite (.cmp .lt (v "l") (v "r")) [.ret (.neg (v "direction"))] []) ρ₂ = if cc i a b = -1 then some (.ret (.int (-w)), ρ₂) else some (.next, ρ₂) := by
        (first | rw [exS_assign] | rw [exS_assignC] | rw [exS_setTrue] | rw [exS_unpack] | rw [exS_swap] | rw [exS_swapOwn] | rw [exS_swapComp] | rw [exS_newOwn] | rw [exS_freeze] | rw [exS_append] | rw [exS_pop] | rw [exS_aug] | rw [exS_ite] | rw [exS_whl] | rw [exS_for1] | rw [exS_forT] | rw [exS_forR] | rw [exS_forE] | rw [exS_ret] | rw [exS_brk] | rw [exS_cont] | rw [exS_try] | rw [exS_dead])
        simp only [t1]
        by_cases hc : cc i a b = -1
        · simp only [hc, decide_true, if_true, exSs_cons, exS_ret, evX_var, evX_neg, v, g3]
        · simp only [hc, decide_false, if_false, exSs_nil]
      have s4 : exS C K (.ite (.cmp .gt (v "l") (v "r")) [.ret (v "direction")] []) ρ₂ = if cc i a b = 1 then some (.ret (.int w), ρ₂) else some (.next, ρ₂) := by
        (first | rw [exS_assign] | rw [exS_assignC] | rw [exS_setTrue] | rw [exS_unpack] | rw [exS_swap] | rw [exS_swapOwn] | rw [exS_swapComp] | rw [exS_newOwn] | rw [exS_freeze] | rw [exS_append] | rw [exS_pop] | rw [exS_aug] | rw [exS_ite] | rw [exS_whl] | rw [exS_for1] | rw [exS_forT] | rw [exS_forR] | rw [exS_forE] | rw [exS_ret] | rw [exS_brk] | rw [exS_cont] | rw [exS_try] | rw [exS_dead])
        simp only [t2]
        by_cases hc : cc i a b = 1
        · simp only [hc, decide_true, if_true, exSs_cons, exS_ret, evX_var, v, g3]
        · simp only [hc, decide_false, if_false, exSs_nil]
      rw [cmpBody]
      rcases cc_cases i a b with hc | hc | hc <;> simp [hc] at s3 s4 <;> simp [exSs_nil, exSs_cons, s1, s2, s3, s4, hc]
    rw [hb']
    unfold kv
    by_cases hz : cc i a b = 0
    · simp only [hz, if_true]
      exact cmp_loop ha hb ks ρ₂ (fun k hk => h k (by simp [hk])) g4 g5
    · simp only [if_neg hz]
      exact ⟨ρ₂, .inl rfl⟩

theorem K1_ok {a b : Rw} (ha : a.2.length ≤ 3) (hb : b.2.length ≤ 3) {ks : List (Nat × Int)} (h : ∀ k ∈ ks, k.1 ≤ 3) : cmpX bCompare (.list (ks.map tk)) (rD a) (rD b) = some (.int (kv ks a b)) := by
  unfold cmpX bCompare
  obtain ⟨ρ', g⟩ := cmp_loop (C := fun _ _ => none) (K := fun _ _ _ => none) ha hb ks (upd (upd (upd (fun _ => .no) "self" (.cmp (.list (ks.map tk)))) "left" (.val (rD a))) "right" (.val (rD b))) h (by simp [upd]) (by simp [upd])
  have e : evX (fun _ _ => none) (fun _ _ _ => none) (upd (upd (upd (fun _ => .no) "self" (.cmp (.list (ks.map tk)))) "left" (.val (rD a))) "right" (.val (rD b))) (.keysOf "self") = some (.list (ks.map tk)) := by
    simp [evX_keysOf, upd]
  generalize upd (upd (upd (fun _ => .no) "self" (.cmp (.list (ks.map tk)))) "left" (.val (rD a))) "right" (.val (rD b)) = ρ at g e
  have st : exS (fun _ _ => none) (fun _ _ _ => none) (.forT ["index", "direction"] (.keysOf "self") cmpBody) ρ = forD (fun d ρ => unpackD ["index", "direction"] d ρ) (fun ρ => exSs (fun _ _ => none) (fun _ _ _ => none) cmpBody ρ) (ks.map tk) ρ := by
    (first | rw [exS_assign] | rw [exS_assignC] | rw [exS_setTrue] | rw [exS_unpack] | rw [exS_swap] | rw [exS_swapOwn] | rw [exS_swapComp] | rw [exS_newOwn] | rw [exS_freeze] | rw [exS_append] | rw [exS_pop] | rw [exS_aug] | rw [exS_ite] | rw [exS_whl] | rw [exS_for1] | rw [exS_forT] | rw [exS_forR] | rw [exS_forE] | rw [exS_ret] | rw [exS_brk] | rw [exS_cont] | rw [exS_try] | rw [exS_dead])
    simp only [e, itemsD_list]
  unfold cmpBody at st
  (first | rw [exSs_nil, st] | rw [exSs_cons, st])
  unfold cmpBody at g
  rcases g with g | ⟨g, hz⟩
  · rw [g]
  · rw [g]
    simp [exSs_cons, exS_ret, evX_int, hz]
end Mine
end

section
open PySem PySem.W PyProof.Rows
namespace Mine
set_option tactic.hygienic false

/-! ### told and due -/
noncomputable def rul (w : Nat → Int) : List (Nat × Int) := [(1, w 0), (2, w 1), (3, w 2), (0, w 3)]
noncomputable def rulD (w : Nat → Int) : PyData := .list ((rul w).map tk)
noncomputable def wayS (z : Int) : Str := Str.ofString (toString z)

theorem way_P {ns : List Str} (h : ∀ n ∈ ns, Nm n) (hl : ns.length ≤ 3) : Way (P ns) := by
  refine ⟨by rw [cl_P]; rfl, P_ok fun n hn => (h n hn).2.2.2.1, by have := P_len h; lia, fun c hc => ?_⟩
  rw [comps_P h] at hc
  exact h c hc

theorem place_at {a : Rw} (hl : a.2.length ≤ 3) : idxD (rD a) (.int 4) = some (.str (P a.2)) := by
  have h1 : (padL a.2).length = 3 := by simp only [padL, List.length_append, List.length_replicate]; lia
  simp only [rD, rowD, idxD_tup, rowL]
  rw [if_pos (by lia)]
  show ((padL a.2).map PyData.str ++ [PyData.str (P a.2)])[3]? = _
  rw [List.getElem?_append_right (by simp [h1]), List.length_map, h1]; rfl

theorem kv_small {w : Nat → Int} (hw : ∀ i, w i = 1 ∨ w i = -1) (a b : Rw) : ∀ ks : List (Nat × Int), (∀ k ∈ ks, k ∈ rul w) → (kv ks a b).natAbs ≤ 1
  | [], _ => by simp [kv]
  | k :: ks, h => by
    unfold kv
    split
    · exact kv_small hw a b ks fun k hk => h k (by simp [hk])
    · have hk := h k (by simp)
      have : k.2 = 1 ∨ k.2 = -1 := by
        simp only [rul, List.mem_cons, List.not_mem_nil, or_false] at hk
        rcases hk with rfl | rfl | rfl | rfl <;> exact hw _
      rcases this with e | e <;> rcases cc_cases k.1 a b with c | c | c <;> simp [e, c]

theorem bi_str {z : Int} (h : z.natAbs ≤ 1) : biD "str" [.int z] = some (.str (wayS z)) := by
  have : decide (z.natAbs < 2) = true := by simp; lia
  simp only [biD_str, if_true, this]; rfl

theorem told_ok (m : Nat) {a b : Rw} (ha : ∀ n ∈ a.2, Nm n) (hb : ∀ n ∈ b.2, Nm n) (hla : a.2.length ≤ 3) (hlb : b.2.length ≤ 3) {w : Nat → Int} (hw : ∀ i, w i = 1 ∨ w i = -1) :
    callX tabOf (cmpX bCompare) (m + 2) "_law_told" [rD a, rD b, rulD w] = some (.tuple [.str (P (lcp a.2 b.2)), .list (((List.range 5).map fun k => kv ((rul w).take k) a b).map fun z => .str (wayS z))]) := by
  refine call_of (by decide) (show tabOf "_law_told" = some fTold from rfl) rfl ?_
  generalize hρ : upd (upd (upd (fun _ => AV.no) "left" (.val (rD a))) "right" (.val (rD b))) "keys" (.val (rulD w)) = ρ
  have f1 : ρ "left" = .val (rD a) := by rw [← hρ]; simp [upd]
  have f2 : ρ "right" = .val (rD b) := by rw [← hρ]; simp [upd]
  have f3 : ρ "keys" = .val (rulD w) := by rw [← hρ]; simp [upd]
  refine Runs.assignC (y := .list (((List.range 5).map fun k => kv ((rul w).take k) a b).map fun z => .str (wayS z))) ?_ ?_
  · (first | rw [evX_nil] | rw [evX_var] | rw [evX_int] | rw [evX_str] | rw [evX_bool] | rw [evX_bin] | rw [evX_neg] | rw [evX_cmp] | rw [evX_bop] | rw [evX_not] | rw [evX_ite] | rw [evX_list] | rw [evX_tup] | rw [evX_idx] | rw [evX_slc] | rw [evX_comp] | rw [evX_compR] | rw [evX_call] | rw [evX_bi] | rw [evX_meth] | rw [evX_isBytes] | rw [evX_mapF] | rw [evX_cmpK] | rw [evX_cmpV] | rw [evX_keysOf] | rw [evX_ownLast] | rw [evX_ownLen] | rw [evX_ownNotIn] | rw [evX_ownSorted])
    rw [compL_all (g := fun i : Nat => PyData.int (i : Nat)) (h := fun k : Nat => .str (wayS (kv ((rul w).take k) a b))) fun k hk => ?_]
    · simp only [List.map_map]; rfl
    · have h1 : upd ρ "k" (.val (.int (k : Nat))) "left" = .val (rD a) := by simp [upd, f1]
      have h2 : upd ρ "k" (.val (.int (k : Nat))) "right" = .val (rD b) := by simp [upd, f2]
      have h3 : upd ρ "k" (.val (.int (k : Nat))) "keys" = .val (rulD w) := by simp [upd, f3]
      have h4 : upd ρ "k" (.val (.int (k : Nat))) "k" = .val (.int (k : Nat)) := by simp [upd]
      have h5 : slcD (rulD w) .none (.int (k : Nat)) = some (.list (((rul w).take k).map tk)) := by
        simp [slcD_list, rulD, partD_none, partD_int, cut_to, List.map_take]
      have h6 := K1_ok hla hlb (ks := (rul w).take k) fun x hx => by
        have := List.mem_of_mem_take hx
        simp only [rul, List.mem_cons, List.not_mem_nil, or_false] at this
        rcases this with rfl | rfl | rfl | rfl <;> simp
      have h7 := bi_str (kv_small hw a b ((rul w).take k) fun x hx => List.mem_of_mem_take hx)
      simp only [evX_nil, evX_var, evX_slc, evX_bi, evX_cmpK, evXs_nil, evXs_cons, v, h1, h2, h3, h4, h5, h6, h7]
  · refine Runs.ret ?_
    have hc := cpath_ok (K := cmpX bCompare) m (d := .tuple [.str (P a.2), .str (P b.2)]) (xs := [P a.2, P b.2]) rfl (by simp) (fun x hx => by
      simp at hx
      rcases hx with rfl | rfl
      · exact way_P ha hla
      · exact way_P hb hlb)
    have hl : lcpAll ([P a.2, P b.2].map comps) = lcp a.2 b.2 := by
      simp [lcpAll, comps_P ha, comps_P hb]
    rw [hl] at hc
    simp only [evX_var, evX_int, evX_tup, evX_idx, evX_call, evXs_nil, evXs_cons, v, upd, String.reduceEq, if_false, if_true, f1, f2, place_at hla, place_at hlb, hc]

/-- what lies behind the common front -/
theorem behind : ∀ {ns ms : List Str}, (∀ n ∈ ns, Nm n) → (∀ n ∈ ms, Nm n) →
    ltl (ns.drop (lcp ns ms).length) (ms.drop (lcp ns ms).length) = lts (padAt ns (lcp ns ms).length) (padAt ms (lcp ns ms).length) ∧
    ltl (ms.drop (lcp ns ms).length) (ns.drop (lcp ns ms).length) = lts (padAt ms (lcp ns ms).length) (padAt ns (lcp ns ms).length) ∧
    (ns ≠ ms → padAt ns (lcp ns ms).length ≠ padAt ms (lcp ns ms).length) ∧
    (∀ i, i < (lcp ns ms).length → padAt ns i = padAt ms i)
  | [], [], _, _ => ⟨by simp [lcp, ltl, padAt, lts_irrefl], by simp [lcp, ltl, padAt, lts_irrefl], fun h => absurd rfl h, by simp [lcp]⟩
  | [], y :: ms, _, h => by
    have hy := (h y (by simp)).1
    have h1 : lts eS y = true := by
      unfold lts
      cases e : cl y with
      | nil => exact absurd e hy
      | cons c r => exact decide_eq_true (List.nil_lt_cons _ _)
    refine ⟨by simp [lcp, ltl, padAt, h1], by simp [lcp, ltl, padAt, lts_asymm h1], fun _ => ?_, by simp [lcp]⟩
    simp only [lcp, padAt, List.length_nil, List.getElem?_nil, List.getElem?_cons_zero, Option.getD_none, Option.getD_some]
    exact fun e => hy (by rw [← e]; rfl)
  | x :: ns, [], h, _ => by
    have hy := (h x (by simp)).1
    have h1 : lts eS x = true := by
      unfold lts
      cases e : cl x with
      | nil => exact absurd e hy
      | cons c r => exact decide_eq_true (List.nil_lt_cons _ _)
    refine ⟨by simp [lcp, ltl, padAt, lts_asymm h1], by simp [lcp, ltl, padAt, h1], fun _ => ?_, by simp [lcp]⟩
    simp only [lcp, padAt, List.length_nil, List.getElem?_nil, List.getElem?_cons_zero, Option.getD_none, Option.getD_some]
    exact fun e => hy (by rw [e]; rfl)
  | x :: ns, y :: ms, h1, h2 => by
    by_cases e : x = y
    · subst e
      obtain ⟨i1, i2, i3, i4⟩ := behind (fun n hn => h1 n (by simp [hn])) (fun n hn => h2 n (by simp [hn])) (ns := ns) (ms := ms)
      have el : lcp (x :: ns) (x :: ms) = x :: lcp ns ms := by simp [lcp]
      rw [el]
      simp only [List.length_cons, List.drop_succ_cons, padAt, List.getElem?_cons_succ] at *
      refine ⟨i1, i2, fun z => i3 fun z' => z (by rw [z']), fun i hi => ?_⟩
      cases i with
      | zero => rfl
      | succ i => simpa using i4 i (by lia)
    · have el : lcp (x :: ns) (y :: ms) = [] := by simp [lcp, e]
      rw [el]
      have e' : ¬ y = x := fun z => e z.symm
      refine ⟨by simp [ltl, padAt, e], by simp [ltl, padAt, e'], fun _ => by simpa [padAt] using e, by simp⟩

noncomputable def colT (t : Nat) : Nat := (t + 1) % 4
theorem kv_take {w : Nat → Int} {a b : Rw} {t : Nat} (ht : t ≤ 3) (h0 : ∀ j, j < t → cc (j + 1) a b = 0) (h1 : t < 3 → cc (t + 1) a b ≠ 0) :
    (List.range 5).map (fun k => kv ((rul w).take k) a b) = List.replicate (t + 1) 0 ++ List.replicate (4 - t) (w t * cc (colT t) a b) := by
  have hr : List.range 5 = [0, 1, 2, 3, 4] := rfl
  rw [hr]
  match t, ht with
  | 0, _ =>
    have := h1 (by lia)
    simp [rul, kv, this, colT, List.replicate]
  | 1, _ =>
    have q := h1 (by lia)
    have q0 := h0 0 (by lia)
    simp at q q0
    simp [rul, kv, q, q0, colT, List.replicate]
  | 2, _ =>
    have q := h1 (by lia)
    have q0 := h0 0 (by lia)
    have q1 := h0 1 (by lia)
    simp at q q0 q1
    simp [rul, kv, q, q0, q1, colT, List.replicate]
  | 3, _ =>
    have q0 := h0 0 (by lia)
    have q1 := h0 1 (by lia)
    have q2 := h0 2 (by lia)
    simp at q0 q1 q2
    simp [rul, kv, q0, q1, q2, colT, List.replicate]
    intro h; rw [h]; simp

/-! ### due -/
theorem ex_ite_t {C : String → List PyData → Option PyData} {K : PyData → PyData → PyData → Option PyData} {ρ : Ro} {t : X} {a b : List S} (h : evT C K ρ t (evX C K ρ t) = some true) : exS C K (.ite t a b) ρ = exSs C K a ρ := by
  (first | rw [exS_assign] | rw [exS_assignC] | rw [exS_setTrue] | rw [exS_unpack] | rw [exS_swap] | rw [exS_swapOwn] | rw [exS_swapComp] | rw [exS_newOwn] | rw [exS_freeze] | rw [exS_append] | rw [exS_pop] | rw [exS_aug] | rw [exS_ite] | rw [exS_whl] | rw [exS_for1] | rw [exS_forT] | rw [exS_forR] | rw [exS_forE] | rw [exS_ret] | rw [exS_brk] | rw [exS_cont] | rw [exS_try] | rw [exS_dead]); simp only [h]
theorem ex_ite_f {C : String → List PyData → Option PyData} {K : PyData → PyData → PyData → Option PyData} {ρ : Ro} {t : X} {a b : List S} (h : evT C K ρ t (evX C K ρ t) = some false) : exS C K (.ite t a b) ρ = exSs C K b ρ := by
  (first | rw [exS_assign] | rw [exS_assignC] | rw [exS_setTrue] | rw [exS_unpack] | rw [exS_swap] | rw [exS_swapOwn] | rw [exS_swapComp] | rw [exS_newOwn] | rw [exS_freeze] | rw [exS_append] | rw [exS_pop] | rw [exS_aug] | rw [exS_ite] | rw [exS_whl] | rw [exS_for1] | rw [exS_forT] | rw [exS_forR] | rw [exS_forE] | rw [exS_ret] | rw [exS_brk] | rw [exS_cont] | rw [exS_try] | rw [exS_dead]); simp only [h]
theorem exs_one {C : String → List PyData → Option PyData} {K : PyData → PyData → PyData → Option PyData} {ρ ρ' : Ro} {s : S} (h : exS C K s ρ = some (.next, ρ')) : exSs C K [s] ρ = some (.next, ρ') := by
  (first | rw [exSs_nil, h] | rw [exSs_cons, h]); rfl
theorem ex_set {C : String → List PyData → Option PyData} {K : PyData → PyData → PyData → Option PyData} {ρ : Ro} {x : String} {e : X} {y : PyData} (h : evX C K ρ e = some y) : exS C K (.assign x e) ρ = some (.next, upd ρ x (.val y)) := by
  simp only [exS_assign, h]
noncomputable def duTail : List S := [
  .ite (.cmp .gt (v "left") (v "right")) [.assign "way" (.idx (.idx (v "keys") (v "turn")) (.int 1))]
    [.ite (.cmp .lt (v "left") (v "right")) [.assign "way" (.neg (.idx (.idx (v "keys") (v "turn")) (.int 1)))] []],
  .ret (.tup [.call "_law_path" [v "front"],
    .bin .add (.bin .mul (.list [.str "0"]) (.bin .add (v "turn") (.int 1))) (.bin .mul (.list [.bi "str" [v "way"]]) (.bin .sub (.int 4) (v "turn")))])]

theorem repL_one {α : Type} (k : Nat) (x : α) : repL k [x] = List.replicate k x := by
  unfold repL
  induction k with
  | zero => rfl
  | succ k ih => rw [List.replicate_succ, List.flatten_cons, ih]; rfl

theorem du_tail (m : Nat) {K : PyData → PyData → PyData → Option PyData} {w : Nat → Int} (hw : ∀ i, w i = 1 ∨ w i = -1) {fr : List Str} (hf : ∀ n ∈ fr, Nm n) (hfl : fr.length ≤ 1000) {t : Nat} (ht : t ≤ 3) {L R : PyData} {z : Int} (hz : z = -1 ∨ z = 0 ∨ z = 1)
    (hlt : ltD L R = some (decide (z = -1))) (hgt : gtD L R = some (decide (z = 1))) {ρ : Ro} (e1 : ρ "left" = .val L) (e2 : ρ "right" = .val R) (e3 : ρ "turn" = .val (.int (t : Nat))) (e4 : ρ "way" = .val (.int 0)) (e5 : ρ "keys" = .val (rulD w)) (e6 : ρ "front" = .val (strL fr)) :
    Runs (callX tabOf K (m + 1)) K duTail ρ (.tuple [.str (P fr), .list ((List.replicate (t + 1) 0 ++ List.replicate (4 - t) (w t * z)).map fun z => .str (wayS z))]) := by
  have hg : cmpD .gt L R = some (.bool (decide (z = 1))) := by simp only [cmpD_gt, hgt]; rfl
  have hl : cmpD .lt L R = some (.bool (decide (z = -1))) := by simp only [cmpD_lt, hlt]; rfl
  have hk : ∃ k, idxD (rulD w) (.int (t : Nat)) = some k ∧ idxD k (.int 1) = some (.int (w t)) := by
    simp only [idxD_list, rulD]
    rw [if_pos (by lia), Int.toNat_natCast]
    match t, ht with
    | 0, _ => exact ⟨_, rfl, rfl⟩
    | 1, _ => exact ⟨_, rfl, rfl⟩
    | 2, _ => exact ⟨_, rfl, rfl⟩
    | 3, _ => exact ⟨_, rfl, rfl⟩
  obtain ⟨k, k1, k2⟩ := hk
  have t1 : evT (callX tabOf K (m + 1)) K ρ (.cmp .gt (v "left") (v "right")) (evX (callX tabOf K (m + 1)) K ρ (.cmp .gt (v "left") (v "right"))) = some (decide (z = 1)) := by
    simp only [evX_var, evX_cmp, v, e1, e2, hg, evT_cmp, truthyD_bool]
  have t2 : evT (callX tabOf K (m + 1)) K ρ (.cmp .lt (v "left") (v "right")) (evX (callX tabOf K (m + 1)) K ρ (.cmp .lt (v "left") (v "right"))) = some (decide (z = -1)) := by
    simp only [evX_var, evX_cmp, v, e1, e2, hl, evT_cmp, truthyD_bool]
  have way : ∃ ρ', exS (callX tabOf K (m + 1)) K (.ite (.cmp .gt (v "left") (v "right")) [.assign "way" (.idx (.idx (v "keys") (v "turn")) (.int 1))]
    [.ite (.cmp .lt (v "left") (v "right")) [.assign "way" (.neg (.idx (.idx (v "keys") (v "turn")) (.int 1)))] []]) ρ = some (.next, ρ') ∧ ρ' "way" = .val (.int (w t * z)) ∧ ρ' "turn" = .val (.int (t : Nat)) ∧ ρ' "front" = .val (strL fr) := by
    rcases hz with hz | hz | hz
    · refine ⟨upd ρ "way" (.val (.int (w t * z))), ?_, by simp [upd], by simp [upd, e3], by simp [upd, e6]⟩
      rw [hz] at t1 t2
      rw [ex_ite_f t1]
      refine exs_one ?_
      rw [ex_ite_t t2]
      refine exs_one (ex_set ?_)
      rw [hz, show w t * (-1 : Int) = - w t by lia]
      simp only [evX_var, evX_int, evX_neg, evX_idx, v, e3, e5, k1, k2]
    · refine ⟨ρ, ?_, by rw [hz, Int.mul_zero]; exact e4, e3, e6⟩
      rw [hz] at t1 t2
      rw [ex_ite_f t1]
      refine exs_one ?_
      rw [ex_ite_f t2]; rfl
    · refine ⟨upd ρ "way" (.val (.int (w t * z))), ?_, by simp [upd], by simp [upd, e3], by simp [upd, e6]⟩
      rw [hz] at t1 t2
      rw [ex_ite_t t1]
      refine exs_one (ex_set ?_)
      simp only [evX_var, evX_int, evX_idx, v, e3, e5, k1, k2, hz, Int.mul_one]
  obtain ⟨ρ', w1, w2, w3, w4⟩ := way
  refine Runs.next w1 (Runs.ret ?_)
  have h0 : Str.ofString "0" = wayS 0 := rfl
  have hn : (w t * z).natAbs ≤ 1 := by
    rcases hw t with e | e <;> rcases hz with c | c | c <;> simp [e, c]
  have b1 : binD .add (.int (t : Nat)) (.int 1) = some (.int ((t + 1 : Nat) : Int)) := rfl
  have b2 : binD .sub (.int 4) (.int (t : Nat)) = some (.int ((4 - t : Nat) : Int)) := by
    simp only [binD_sub]; congr 2; lia
  have b3 : ∀ (k : Nat) (x : PyData), k ≤ 4 → binD .mul (.list [x]) (.int (k : Nat)) = some (.list (List.replicate k x)) := fun k x hk => by
    simp only [binD_mulL, Int.toNat_natCast, repL_one]
    rw [if_pos (by simp; lia)]
  have b4 : binD .add (.list (List.replicate (t + 1) (.str (wayS 0)))) (.list (List.replicate (4 - t) (.str (wayS (w t * z))))) = some (.list ((List.replicate (t + 1) 0 ++ List.replicate (4 - t) (w t * z)).map fun z => .str (wayS z))) := by
    simp only [binD_addL]
    rw [if_pos (by simp [sizeLine_eq]; lia)]
    simp
  have hp := path_ok (K := K) m hf hfl
  simp only [evX_var, evX_int, evX_str, evX_bin, evX_list, evX_tup, evX_call, evX_bi, evXs_nil, evXs_cons, v, w2, w3, w4, strL, hp, h0, b1, b2, bi_str hn, b3 (t + 1) _ (by lia), b3 (4 - t) _ (by lia), b4]

theorem due_ok (m : Nat) {K : PyData → PyData → PyData → Option PyData} {a b : Rw} (ha : ∀ n ∈ a.2, Nm n) (hb : ∀ n ∈ b.2, Nm n) (hla : a.2.length ≤ 3) (hlb : b.2.length ≤ 3) {w : Nat → Int} (hw : ∀ i, w i = 1 ∨ w i = -1) (x y : Str) (p q : List Str) :
    callX tabOf K (m + 2) "_law_due" [drD a.1 x p a.2, drD b.1 y q b.2, rulD w] = some (.tuple [.str (P (lcp a.2 b.2)), .list (((List.range 5).map fun k => kv ((rul w).take k) a b).map fun z => .str (wayS z))]) := by
  refine call_of (by decide) (show tabOf "_law_due" = some fDue from rfl) rfl ?_
  obtain ⟨n1, as⟩ := a
  obtain ⟨n2, bs⟩ := b
  simp only at *
  obtain ⟨i1, i2, i3, i4⟩ := behind ha hb
  have hfr : ∀ n ∈ lcp as bs, Nm n := fun n hn => ha n ((lcp_left as bs).subset hn)
  have hfl : (lcp as bs).length ≤ 3 := Nat.le_trans (lcp_left as bs).length_le hla
  have hsh := shared_ok (K := K) m (ls := [as, bs]) (by simp) (fun l hl => by
    simp at hl
    rcases hl with rfl | rfl
    · exact ⟨by unfold WN; lia, fun x hx => (ha x hx).2.2.2.1⟩
    · exact ⟨by unfold WN; lia, fun x hx => (hb x hx).2.2.2.1⟩)
  have hsh' : callX tabOf K (m + 1) "_law_shared" [.list [strL as, strL bs]] = some (strL (lcp as bs)) := by
    rw [List.map_cons, List.map_cons] at hsh
    rw [List.map_nil] at hsh
    rw [hsh]
    simp [lcpAll]
  generalize hρ : upd (upd (upd (fun _ => AV.no) "one" (.val (drD n1 x p as))) "two" (.val (drD n2 y q bs))) "keys" (.val (rulD w)) = ρ
  have f1 : ρ "one" = .val (drD n1 x p as) := by rw [← hρ]; simp [upd]
  have f2 : ρ "two" = .val (drD n2 y q bs) := by rw [← hρ]; simp [upd]
  have f3 : ρ "keys" = .val (rulD w) := by rw [← hρ]; simp [upd]
  have c1 : ∀ n x p l, idxD (drD n x p l) (.int 2) = some (strL l) := fun _ _ _ _ => rfl
  have c2 : ∀ n x p l, idxD (drD n x p l) (.int 3) = some (.int n) := fun _ _ _ _ => rfl
  refine Runs.assign (y := strL (lcp as bs)) (by simp only [evX_var, evX_int, evX_list, evX_idx, evX_call, evXs_nil, evXs_cons, v, f1, f2, c1, hsh']) ?_
  generalize hρ₁ : upd ρ "front" (.val (strL (lcp as bs))) = ρ₁
  have g1 : ρ₁ "one" = .val (drD n1 x p as) := by rw [← hρ₁]; simp [upd, f1]
  have g2 : ρ₁ "two" = .val (drD n2 y q bs) := by rw [← hρ₁]; simp [upd, f2]
  have g3 : ρ₁ "keys" = .val (rulD w) := by rw [← hρ₁]; simp [upd, f3]
  have g4 : ρ₁ "front" = .val (strL (lcp as bs)) := by rw [← hρ₁]; simp [upd]
  have hlen : biD "len" [strL (lcp as bs)] = some (.int ((lcp as bs).length : Nat)) := by simp [biD_lenL, strL]
  have hs : ∀ (l : List Str) (t : Nat), slcD (strL l) (.int (t : Nat)) .none = some (strL (l.drop t)) := fun l t => by simp [slcD_list, strL, partD_none, partD_int, cut_from, List.map_drop]
  generalize hρ₂ : upd (upd (upd (upd ρ₁ "turn" (.val (.int ((lcp as bs).length : Nat)))) "left" (.val (strL (as.drop (lcp as bs).length)))) "right" (.val (strL (bs.drop (lcp as bs).length)))) "way" (.val (.int 0)) = ρ₂
  refine Runs.next (ρ' := ρ₂) (by simp only [exS_unpack, evX_nil, evX_var, evX_int, evX_tup, evX_idx, evX_slc, evX_bi, evXs_nil, evXs_cons, v, g1, g2, g4, hlen, c1, hs, unpackD_tup, bindAll_nil, bindAll_cons, hρ₂]) ?_
  have k1 : ρ₂ "left" = .val (strL (as.drop (lcp as bs).length)) := by rw [← hρ₂]; simp [upd]
  have k2 : ρ₂ "right" = .val (strL (bs.drop (lcp as bs).length)) := by rw [← hρ₂]; simp [upd]
  have k3 : ρ₂ "turn" = .val (.int ((lcp as bs).length : Nat)) := by rw [← hρ₂]; simp [upd]
  have k4 : ρ₂ "way" = .val (.int 0) := by rw [← hρ₂]; simp [upd]
  have k5 : ρ₂ "keys" = .val (rulD w) := by rw [← hρ₂]; simp [upd, g3]
  have k6 : ρ₂ "front" = .val (strL (lcp as bs)) := by rw [← hρ₂]; simp [upd, g4]
  have k7 : ρ₂ "one" = .val (drD n1 x p as) := by rw [← hρ₂]; simp [upd, g1]
  have k8 : ρ₂ "two" = .val (drD n2 y q bs) := by rw [← hρ₂]; simp [upd, g2]
  have heq : cmpD .eq (strL (as.drop (lcp as bs).length)) (strL (bs.drop (lcp as bs).length)) = some (.bool (decide (as.drop (lcp as bs).length = bs.drop (lcp as bs).length))) := by
    have a1 := shal_strL (l := as.drop (lcp as bs).length) fun x hx => (ha x (List.mem_of_mem_drop hx)).2.2.2.1
    have a2 := shal_strL (l := bs.drop (lcp as bs).length) fun x hx => (hb x (List.mem_of_mem_drop hx)).2.2.2.1
    simp only [cmpD_eq, a1, a2, Bool.and_self, if_true]
    rw [strL, strL, eqv_ll]
  have te : evT (callX tabOf K (m + 1)) K ρ₂ (.cmp .eq (v "left") (v "right")) (evX (callX tabOf K (m + 1)) K ρ₂ (.cmp .eq (v "left") (v "right"))) = some (decide (as.drop (lcp as bs).length = bs.drop (lcp as bs).length)) := by
    simp only [evX_var, evX_cmp, v, k1, k2, heq, evT_cmp, truthyD_bool]
  by_cases e : as = bs
  · subst e
    rw [decide_eq_true rfl] at te
    generalize hρ₃ : upd (upd (upd ρ₂ "right" (.val (.list [.int n2]))) "left" (.val (.list [.int n1]))) "turn" (.val (.int 3)) = ρ₃
    refine Runs.next (ρ' := ρ₃) (by rw [ex_ite_t te]; simp only [exSs_nil, exSs_cons, exS_swap, evX_var, evX_int, evX_list, evX_idx, evXs_nil, evXs_cons, v, k7, k8, c2]; rw [← hρ₃]; rfl) ?_
    rw [kv_take (t := 3) (by lia) (fun j _ => by simp [cc, sgS, lts_irrefl]) (by lia)]
    have hcc : cc (colT 3) (n1, as) (n2, as) = sgI n1 n2 := rfl
    rw [hcc]
    have hcs : sgI n1 n2 = -1 ∨ sgI n1 n2 = 0 ∨ sgI n1 n2 = 1 := cc_cases 0 (n1, as) (n2, as)
    have hll : ltD (.list [.int n1]) (.list [.int n2]) = some (decide (n1 < n2)) := by
      simp only [ltD_list, ltL_nil, ltL_cons, isAtom_int, Bool.and_self, if_true, PyData.eqv, ltA_int]
      by_cases h : n1 = n2
      · subst h; simp
      · simp [h]
    have hgg : gtD (.list [.int n1]) (.list [.int n2]) = some (decide (n2 < n1)) := by
      simp only [gtD_list, gtL_nil, gtL_cons, isAtom_int, Bool.and_self, if_true, PyData.eqv, ltA_int]
      by_cases h : n1 = n2
      · subst h; simp
      · simp [h]
    obtain ⟨s1, s2⟩ := sg_lt (p := decide (n1 < n2)) (q := decide (n2 < n1)) (z := sgI n1 n2) (by simp; lia) (by simp [sgI])
    exact du_tail m hw hfr (by lia) (t := 3) (by lia) hcs (by rw [hll, s1]) (by rw [hgg, s2]) (by rw [← hρ₃]; simp [upd]) (by rw [← hρ₃]; simp [upd]) (by rw [← hρ₃]; simp [upd]) (by rw [← hρ₃]; simp [upd, k4]) (by rw [← hρ₃]; simp [upd, k5]) (by rw [← hρ₃]; simp [upd, k6])
  · have hne : as.drop (lcp as bs).length ≠ bs.drop (lcp as bs).length := fun z => by
      rw [z, ltl_irrefl] at i1 i2
      exact i3 e (lts_tri i1.symm i2.symm)
    rw [decide_eq_false hne] at te
    refine Runs.next (ρ' := ρ₂) (by rw [ex_ite_f te]; rfl) ?_
    have hpne := i3 e
    have ht : (lcp as bs).length < 3 := by
      refine Nat.lt_of_not_le fun h => e ?_
      have h1 := (lcp_left as bs).eq_of_length (by have := (lcp_left as bs).length_le; lia)
      have h2 := (lcp_right as bs).eq_of_length (by have := (lcp_right as bs).length_le; lia)
      exact h1.symm.trans h2
    generalize hT : (lcp as bs).length = t at *
    have hct : colT t = t + 1 := by unfold colT; lia
    have hcc : cc (t + 1) (n1, as) (n2, bs) = sgS (padAt as t) (padAt bs t) := rfl
    rw [kv_take (t := t) (by lia) (fun j hj => by simp [cc, sgS, i4 j hj, lts_irrefl]) (fun _ => by
      rw [hcc]; unfold sgS
      cases h1 : lts (padAt as t) (padAt bs t) with
      | true => simp
      | false => cases h2 : lts (padAt bs t) (padAt as t) with
        | true => simp
        | false => exact absurd (lts_tri h1 h2) hpne)]
    rw [hct]
    obtain ⟨s1, s2⟩ := sg_lt (p := lts (padAt as t) (padAt bs t)) (q := lts (padAt bs t) (padAt as t)) (z := cc (t + 1) (n1, as) (n2, bs)) lts_asymm rfl
    exact du_tail m hw hfr (by lia) (by lia) (cc_cases _ _ _) (by rw [ltD_ll, i1, s1]) (by rw [gtD_ll, i2, s2]) k1 k2 k3 k4 k5 k6
end Mine
end

section
open PySem PySem.W PyProof.Rows
namespace Mine
set_option tactic.hygienic false

/-! ### the order that the keys make -/
theorem cc_neg (i : Nat) (a b : Rw) : cc i b a = - cc i a b := by
  cases i with
  | zero =>
    simp only [cc, sgI]
    by_cases h1 : a.1 < b.1
    · have : ¬ b.1 < a.1 := by lia
      simp [h1, this]
    · by_cases h2 : b.1 < a.1 <;> simp [h1, h2]
  | succ i =>
    simp only [cc, sgS]
    cases h1 : lts (padAt a.2 i) (padAt b.2 i) with
    | true => simp [lts_asymm h1]
    | false => cases h2 : lts (padAt b.2 i) (padAt a.2 i) <;> simp
theorem cc_zero {i : Nat} {a b : Rw} (h : cc i a b = 0) (c : Rw) : cc i a c = cc i b c := by
  cases i with
  | zero =>
    simp only [cc, sgI] at h ⊢
    have : a.1 = b.1 := by
      split at h
      · simp at h
      · split at h
        · simp at h
        · lia
    rw [this]
  | succ i =>
    simp only [cc, sgS] at h ⊢
    have : padAt a.2 i = padAt b.2 i := by
      cases h1 : lts (padAt a.2 i) (padAt b.2 i) with
      | true => simp [h1] at h
      | false => cases h2 : lts (padAt b.2 i) (padAt a.2 i) with
        | true => simp [h1, h2] at h
        | false => exact lts_tri h1 h2
    rw [this]
theorem cc_lt {i : Nat} {a b c : Rw} (h1 : cc i a b = -1) (h2 : cc i b c = -1) : cc i a c = -1 := by
  cases i with
  | zero =>
    simp only [cc, sgI] at h1 h2 ⊢
    have e1 : a.1 < b.1 := by
      split at h1
      · assumption
      · split at h1 <;> simp at h1
    have e2 : b.1 < c.1 := by
      split at h2
      · assumption
      · split at h2 <;> simp at h2
    rw [if_pos (by lia)]
  | succ i =>
    simp only [cc, sgS] at h1 h2 ⊢
    have e1 : lts (padAt a.2 i) (padAt b.2 i) = true := by
      split at h1
      · assumption
      · split at h1 <;> simp at h1
    have e2 : lts (padAt b.2 i) (padAt c.2 i) = true := by
      split at h2
      · assumption
      · split at h2 <;> simp at h2
    rw [if_pos (lts_trans e1 e2)]
theorem cc_gt {i : Nat} {a b c : Rw} (h1 : cc i a b = 1) (h2 : cc i b c = 1) : cc i a c = 1 := by
  have h3 : cc i b a = -1 := by rw [cc_neg, h1]
  have h4 : cc i c b = -1 := by rw [cc_neg, h2]
  have := cc_lt h4 h3
  rw [cc_neg] at this; lia

theorem kv_neg : ∀ (ks : List (Nat × Int)) (a b : Rw), kv ks b a = - kv ks a b
  | [], _, _ => rfl
  | k :: ks, a, b => by
    unfold kv
    rw [cc_neg k.1 a b]
    by_cases h : cc k.1 a b = 0
    · rw [if_pos (by rw [h]; rfl), if_pos h, kv_neg ks a b]
    · rw [if_neg (by lia), if_neg h, Int.mul_neg]

theorem kv_trans : ∀ {ks : List (Nat × Int)} {a b c : Rw}, (∀ k ∈ ks, k.2 = 1 ∨ k.2 = -1) → kv ks a b ≤ 0 → kv ks b c ≤ 0 → kv ks a c ≤ 0
  | [], _, _, _, _, _, _ => by simp [kv]
  | k :: ks, a, b, c, hw, h1, h2 => by
    unfold kv at *
    by_cases e1 : cc k.1 a b = 0
    · rw [if_pos e1] at h1
      rw [cc_zero e1 c]
      by_cases e2 : cc k.1 b c = 0
      · rw [if_pos e2] at h2 ⊢
        exact kv_trans (fun k hk => hw k (by simp [hk])) h1 h2
      · rw [if_neg e2] at h2 ⊢
        exact h2
    · rw [if_neg e1] at h1
      by_cases e2 : cc k.1 b c = 0
      · have e3 : cc k.1 c b = 0 := by rw [cc_neg, e2]; rfl
        have e4 : cc k.1 a c = cc k.1 a b := by
          rw [cc_neg k.1 c a, cc_zero e3 a, cc_neg k.1 a b]; lia
        rw [e4, if_neg e1]; exact h1
      · rw [if_neg e2] at h2
        have hk := hw k (by simp)
        have q1 : cc k.1 a b = cc k.1 b c := by
          rcases hk with hk | hk <;> rw [hk] at h1 h2 <;> rcases cc_cases k.1 a b with c1 | c1 | c1 <;> rcases cc_cases k.1 b c with c2 | c2 | c2 <;> lia
        have q2 : cc k.1 a c = cc k.1 a b := by
          rcases cc_cases k.1 a b with c1 | c1 | c1
          · rw [c1, cc_lt c1 (q1 ▸ c1)]
          · exact absurd c1 e1
          · rw [c1, cc_gt c1 (q1 ▸ c1)]
        rw [q2, if_neg e1]; exact h1

/-! ### _law_sorted -/
theorem s_take (l : List PyData) (k : Nat) : slcD (.list l) .none (.int (k : Nat)) = some (.list (l.take k)) := by simp [slcD_list, partD_none, partD_int, cut_to]
theorem s_drop (l : List PyData) (k : Nat) : slcD (.list l) (.int (k : Nat)) .none = some (.list (l.drop k)) := by simp [slcD_list, partD_none, partD_int, cut_from]

theorem rul_way {w : Nat → Int} (hw : ∀ i, w i = 1 ∨ w i = -1) : ∀ k ∈ rul w, k.2 = 1 ∨ k.2 = -1 := fun k hk => by
  simp only [rul, List.mem_cons, List.not_mem_nil, or_false] at hk
  rcases hk with rfl | rfl | rfl | rfl <;> exact hw _
theorem rul_col {w : Nat → Int} : ∀ k ∈ rul w, k.1 ≤ 3 := fun k hk => by
  simp only [rul, List.mem_cons, List.not_mem_nil, or_false] at hk
  rcases hk with rfl | rfl | rfl | rfl <;> simp

noncomputable def soTest : X := .bop true [.cmp .gt (v "k") (.int 0), .cmp .gt (.cmpV "order" (.idx (v "done") (.bin .sub (v "k") (.int 1))) (v "row")) (.int 0)]
noncomputable def soBody : List S := [.assign "k" (.bin .sub (v "k") (.int 1))]

theorem so_while {C : String → List PyData → Option PyData} {w : Nat → Int} {row : Rw} (hrow : row.2.length ≤ 3) : ∀ (j : Nat) (A B : List Rw) (ρ : Ro) (fuel : Nat), A.length = j → j < fuel → (∀ a ∈ A ++ B, a.2.length ≤ 3) → (∀ b ∈ B, 0 < kv (rul w) b row) →
    ρ "k" = .val (.int (A.length : Nat)) → ρ "done" = .val (.list ((A ++ B).map rD)) → ρ "row" = .val (rD row) → ρ "order" = .cmp (rulD w) →
    ∃ ρ' A' B', whileD (fun ρ => evT C (cmpX bCompare) ρ soTest (evX C (cmpX bCompare) ρ soTest)) (fun ρ => exSs C (cmpX bCompare) soBody ρ) fuel ρ = some (.next, ρ') ∧ A' ++ B' = A ++ B ∧ (∀ b ∈ B', 0 < kv (rul w) b row) ∧ (∀ a, A'.getLast? = some a → kv (rul w) a row ≤ 0) ∧
      ρ' "k" = .val (.int (A'.length : Nat)) ∧ ∀ y, y ≠ "k" → ρ' y = ρ y
  | j, A, B, ρ, 0, _, hf, _, _, _, _, _, _ => absurd hf (by lia)
  | j, A, B, ρ, fuel + 1, hj, hf, hl, hB, e1, e2, e3, e4 => by
    rcases List.eq_nil_or_concat A with e | ⟨A₀, a, e⟩
    · subst e
      refine ⟨ρ, [], B, ?_, rfl, hB, by simp, e1, fun _ _ => rfl⟩
      unfold whileD
      have ht : evT C (cmpX bCompare) ρ soTest (evX C (cmpX bCompare) ρ soTest) = some false := by
        simp [soTest, evT_bop, evT_cmp, evTs_cons, evX_var, evX_int, evX_cmp, evX_bop, v, e1, cmpD_gt, gtD_int, truthyD_bool]
      simp only [ht]
    · rw [List.concat_eq_append] at e
      subst e
      have b1 : binD .sub (.int ((A₀ ++ [a]).length : Nat)) (.int 1) = some (.int (A₀.length : Nat)) := by
        simp only [binD_sub]; congr 2; simp
      have hix : idxD (.list ((A₀ ++ [a] ++ B).map rD)) (.int (A₀.length : Nat)) = some (rD a) := by
        simp [idxD_list]
      have hk := K1_ok (hl a (by simp)) hrow (ks := rul w) rul_col
      have c1 : cmpD .gt (.int ((A₀ ++ [a]).length : Nat)) (.int 0) = some (.bool true) := by
        simp [cmpD_gt, gtD_int]
      have c2 : cmpD .gt (.int (kv (rul w) a row)) (.int 0) = some (.bool (decide (0 < kv (rul w) a row))) := rfl
      have ht : evT C (cmpX bCompare) ρ soTest (evX C (cmpX bCompare) ρ soTest) = some (decide (0 < kv (rul w) a row)) := by
        have hk' : cmpX bCompare (rulD w) (rD a) (rD row) = some (.int (kv (rul w) a row)) := hk
        simp only [soTest, evT_bop, evT_cmp, evTs_nil, evTs_cons, evX_var, evX_int, evX_bin, evX_cmp, evX_bop, evX_idx, evX_cmpV, v, e1, e2, e3, e4, b1, hix, hk', c1, c2, truthyD_bool, if_true]
        cases decide (0 < kv (rul w) a row) <;> rfl
      by_cases hp : 0 < kv (rul w) a row
      · have hb : exSs C (cmpX bCompare) soBody ρ = some (.next, upd ρ "k" (.val (.int (A₀.length : Nat)))) := by
          unfold soBody
          refine exs_one (ex_set ?_)
          simp only [evX_var, evX_int, evX_bin, v, e1, b1]
        simp only [List.length_append, List.length_cons, List.length_nil] at hj
        obtain ⟨ρ', A', B', g1, g2, g3, g4, g5, g6⟩ := so_while (C := C) hrow (j - 1) A₀ (a :: B) (upd ρ "k" (.val (.int (A₀.length : Nat)))) fuel (by lia) (by lia) (by simpa using hl) (fun b hb => by
          rcases List.mem_cons.mp hb with rfl | hb
          · exact hp
          · exact hB b hb) (by simp [upd]) (by simp [upd, e2]) (by simp [upd, e3]) (by simp [upd, e4])
        refine ⟨ρ', A', B', ?_, by rw [g2]; simp, g3, g4, g5, fun y hy => by rw [g6 y hy]; simp [upd, hy]⟩
        unfold whileD
        rw [decide_eq_true hp] at ht
        simp only [ht, hb]
        exact g1
      · refine ⟨ρ, A₀ ++ [a], B, ?_, rfl, hB, fun x hx => ?_, e1, fun _ _ => rfl⟩
        · unfold whileD
          rw [decide_eq_false hp] at ht
          simp only [ht]
        · rw [List.getLast?_append] at hx
          simp at hx; subst hx; lia

noncomputable def soLoop : List S := [
    .assign "k" (.bi "len" [v "done"]),
    .whl soTest soBody,
    .assign "done" (.bin .add (.bin .add (.slc (v "done") .nil (v "k")) (.list [v "row"])) (.slc (v "done") (v "k") .nil))]

set_option tactic.hygienic true in
theorem so_for {C : String → List PyData → Option PyData} {w : Nat → Int} (hw : ∀ i, w i = 1 ∨ w i = -1) : ∀ (rows done : List Rw) (ρ : Ro), (∀ a ∈ rows, a.2.length ≤ 3) → (∀ a ∈ done, a.2.length ≤ 3) → rows.length + done.length ≤ 50 → done.Pairwise (fun a b => kv (rul w) a b ≤ 0) →
    ρ "done" = .val (.list (done.map rD)) → ρ "order" = .cmp (rulD w) →
    ∃ (ρ' : Ro) (tour : List Rw), forD (fun d ρ => some (upd ρ "row" (.val d))) (fun ρ => exSs C (cmpX bCompare) soLoop ρ) (rows.map rD) ρ = some (.next, ρ') ∧ ρ' "done" = .val (.list (tour.map rD)) ∧ tour.Perm (rows ++ done) ∧ tour.Pairwise (fun a b => kv (rul w) a b ≤ 0)
  | [], done, ρ, _, _, _, hp, e1, _ => ⟨ρ, done, rfl, e1, by simp, hp⟩
  | r :: rows, done, ρ, h1, h2, hl, hp, e1, e2 => by
    simp only [List.length_cons] at hl
    have hr := h1 r (by simp)
    generalize hρ : upd ρ "row" (.val (rD r)) = ρ₁
    have f1 : ρ₁ "row" = .val (rD r) := by rw [← hρ]; simp [upd]
    have f2 : ρ₁ "done" = .val (.list (done.map rD)) := by rw [← hρ]; simp [upd, e1]
    have f3 : ρ₁ "order" = .cmp (rulD w) := by rw [← hρ]; simp [upd, e2]
    have hlen : biD "len" [.list (done.map rD)] = some (.int (done.length : Nat)) := by simp [biD_lenL]
    have s1 : exS C (cmpX bCompare) (.assign "k" (.bi "len" [v "done"])) ρ₁ = some (.next, upd ρ₁ "k" (.val (.int (done.length : Nat)))) := ex_set (by simp only [evX_var, evX_bi, evXs_nil, evXs_cons, v, f2, hlen])
    obtain ⟨ρ₂, A, B, g1, g2, g3, g4, g5, g6⟩ := so_while (C := C) (w := w) hr done.length done [] (upd ρ₁ "k" (.val (.int (done.length : Nat)))) WN rfl (by unfold WN; lia) (by simpa using h2) (by simp) (by simp [upd]) (by simp [upd, f2]) (by simp [upd, f1]) (by simp [upd, f3])
    rw [List.append_nil] at g2
    have k1 : ρ₂ "done" = .val (.list ((A ++ B).map rD)) := by rw [g6 _ (by decide), g2]; simp [upd, f2]
    have k2 : ρ₂ "row" = .val (rD r) := by rw [g6 _ (by decide)]; simp [upd, f1]
    have k3 : ρ₂ "order" = .cmp (rulD w) := by rw [g6 _ (by decide)]; simp [upd, f3]
    have hAB : A.length + B.length = done.length := by rw [← g2]; simp
    have t1 : ((A ++ B).map rD).take A.length = A.map rD := by rw [List.map_append, List.take_left' (by simp)]
    have t2 : ((A ++ B).map rD).drop A.length = B.map rD := by rw [List.map_append, List.drop_left' (by simp)]
    have b1 : binD .add (.list (A.map rD)) (.list [rD r]) = some (.list (A.map rD ++ [rD r])) := by
      simp only [binD_addL]; rw [if_pos (by simp [sizeLine_eq]; lia)]
    have b2 : binD .add (.list (A.map rD ++ [rD r])) (.list (B.map rD)) = some (.list ((A ++ r :: B).map rD)) := by
      simp only [binD_addL]; rw [if_pos (by simp [sizeLine_eq]; lia)]; simp
    have s3 : exS C (cmpX bCompare) (.assign "done" (.bin .add (.bin .add (.slc (v "done") .nil (v "k")) (.list [v "row"])) (.slc (v "done") (v "k") .nil))) ρ₂ = some (.next, upd ρ₂ "done" (.val (.list ((A ++ r :: B).map rD)))) := ex_set (by
      simp only [evX_nil, evX_var, evX_bin, evX_list, evX_slc, evXs_nil, evXs_cons, v, k1, k2, g5, s_take, s_drop, t1, t2, b1, b2])
    have s2 : exS C (cmpX bCompare) (.whl soTest soBody) (upd ρ₁ "k" (.val (.int (done.length : Nat)))) = some (.next, ρ₂) := by (first | rw [exS_assign] | rw [exS_assignC] | rw [exS_setTrue] | rw [exS_unpack] | rw [exS_swap] | rw [exS_swapOwn] | rw [exS_swapComp] | rw [exS_newOwn] | rw [exS_freeze] | rw [exS_append] | rw [exS_pop] | rw [exS_aug] | rw [exS_ite] | rw [exS_whl] | rw [exS_for1] | rw [exS_forT] | rw [exS_forR] | rw [exS_forE] | rw [exS_ret] | rw [exS_brk] | rw [exS_cont] | rw [exS_try] | rw [exS_dead]); exact g1
    have hb : exSs C (cmpX bCompare) soLoop ρ₁ = some (.next, upd ρ₂ "done" (.val (.list ((A ++ r :: B).map rD)))) := by
      simp only [soLoop, exSs_nil, exSs_cons, s1, s2, s3]
    have hm : ∀ a, a ∈ A ++ B → a ∈ done := fun a ha => by rw [← g2]; exact ha
    have hpair : (A ++ r :: B).Pairwise (fun a b => kv (rul w) a b ≤ 0) := by
      rw [← g2] at hp
      rw [List.pairwise_append] at hp ⊢
      obtain ⟨p1, p2, p3⟩ := hp
      have hA : ∀ a ∈ A, kv (rul w) a r ≤ 0 := fun a ha => by
        rcases List.eq_nil_or_concat A with e | ⟨A₀, l, e⟩
        · subst e; cases ha
        · rw [List.concat_eq_append] at e
          subst e
          have hll := g4 l (by simp)
          rcases List.mem_append.mp ha with h | h
          · rw [List.pairwise_append] at p1
            exact kv_trans (rul_way hw) (p1.2.2 a h l (by simp)) hll
          · simp at h; subst h; exact hll
      refine ⟨p1, List.pairwise_cons.mpr ⟨fun b hb => ?_, p2⟩, fun a ha b hb => ?_⟩
      · have := g3 b hb
        rw [kv_neg]; lia
      · rcases List.mem_cons.mp hb with rfl | hb
        · exact hA a ha
        · exact p3 a ha b hb
    obtain ⟨ρ', tour, q1, q2, q3, q4⟩ := so_for (C := C) hw rows (A ++ r :: B) (upd ρ₂ "done" (.val (.list ((A ++ r :: B).map rD)))) (fun a ha => h1 a (by simp [ha])) (fun a ha => by
      rcases List.mem_append.mp ha with h | h
      · exact h2 a (hm a (by simp [h]))
      · rcases List.mem_cons.mp h with rfl | h
        · exact hr
        · exact h2 a (hm a (by simp [h]))) (by simp; lia) hpair (by simp [upd]) (by simp [upd, k3])
    refine ⟨ρ', tour, ?_, q2, ?_, q4⟩
    · simp only [List.map_cons, forD_cons]
      rw [hρ, hb]
      exact q1
    · refine q3.trans ?_
      have : (A ++ r :: B).Perm (r :: done) := by
        rw [← g2]; exact List.perm_middle
      exact (this.append_left rows).trans (List.perm_middle)

theorem sortedL_ok (m : Nat) {w : Nat → Int} (hw : ∀ i, w i = 1 ∨ w i = -1) {rows : List Rw} (h : ∀ a ∈ rows, a.2.length ≤ 3) (hl : rows.length ≤ 50) :
    ∃ tour : List Rw, tour.Perm rows ∧ tour.Pairwise (fun a b => kv (rul w) a b ≤ 0) ∧ callX tabOf (cmpX bCompare) (m + 1) "_law_sorted" [.list (rows.map rD), rulD w] = some (.list (tour.map rD)) := by
  obtain ⟨ρ', tour, q1, q2, q3, q4⟩ := so_for (C := callX tabOf (cmpX bCompare) m) hw rows [] (upd (upd (upd (upd (fun _ => .no) "rows" (.val (.list (rows.map rD)))) "keys" (.val (rulD w))) "order" (.cmp (rulD w))) "done" (.val (.list []))) h (by simp) (by simpa using hl) (by simp) (by simp [upd]) (by simp [upd])
  rw [List.append_nil] at q3
  refine ⟨tour, q3, q4, ?_⟩
  refine call_of (by decide) (show tabOf "_law_sorted" = some fSorted from rfl) rfl ?_
  refine Runs.next (by simp [exS_swapComp, evX_var, v, upd]; rfl) ?_
  refine Runs.next (ρ' := ρ') ?_ (Runs.ret (by simp only [evX_var, v, q2]))
  (first | rw [exS_assign] | rw [exS_assignC] | rw [exS_setTrue] | rw [exS_unpack] | rw [exS_swap] | rw [exS_swapOwn] | rw [exS_swapComp] | rw [exS_newOwn] | rw [exS_freeze] | rw [exS_append] | rw [exS_pop] | rw [exS_aug] | rw [exS_ite] | rw [exS_whl] | rw [exS_for1] | rw [exS_forT] | rw [exS_forR] | rw [exS_forE] | rw [exS_ret] | rw [exS_brk] | rw [exS_cont] | rw [exS_try] | rw [exS_dead])
  have : ∀ ρ : Ro, ρ "rows" = .val (.list (rows.map rD)) → evX (callX tabOf (cmpX bCompare) m) (cmpX bCompare) ρ (v "rows") = some (.list (rows.map rD)) := fun ρ h => by simp only [evX_var, v, h]
  rw [this _ (by simp [upd])]
  simp only [itemsD_list]
  exact q1
end Mine
end

section
open PySem PySem.W PyProof.Rows
namespace Mine
set_option tactic.hygienic false

/-! ### what lies between two rows in the order -/
theorem cc_mid : ∀ {ks : List (Nat × Int)} {x y z : Rw} (n : Nat), (∀ k ∈ ks, k.2 = 1 ∨ k.2 = -1) → kv ks x y ≤ 0 → kv ks y z ≤ 0 → (∀ k ∈ ks.take n, cc k.1 x z = 0) → ∀ k ∈ ks.take n, cc k.1 x y = 0
  | [], _, _, _, _, _, _, _, _, k, hk => by simp at hk
  | _ :: _, _, _, _, 0, _, _, _, _, k, hk => by simp at hk
  | k₀ :: ks, x, y, z, n + 1, hw, h1, h2, h3, k, hk => by
    rw [List.take_succ_cons] at h3 hk
    have e1 := h3 k₀ (by simp)
    have e2 : cc k₀.1 y z = - cc k₀.1 x y := by
      have e3 : cc k₀.1 z x = 0 := by rw [cc_neg, e1]; rfl
      rw [cc_neg k₀.1 z y, cc_zero e3 y]
    unfold kv at h1 h2
    have hz : cc k₀.1 x y = 0 := by
      refine Classical.byContradiction fun hne => ?_
      rw [if_neg hne] at h1
      rw [e2, if_neg (by lia)] at h2
      rcases hw k₀ (by simp) with e | e <;> rw [e] at h1 h2 <;> lia
    rw [if_pos hz] at h1
    rw [e2, hz, if_pos (by decide)] at h2
    rcases List.mem_cons.mp hk with rfl | hk
    · exact hz
    · exact cc_mid n (fun k hk => hw k (by simp [hk])) h1 h2 (fun k hk => h3 k (by simp [hk])) k hk

theorem pads_of_pre {c x : List Str} (h : c <+: x) : ∀ j, j < c.length → padAt c j = padAt x j := fun j hj => by
  refine e1_1 (h) fun r ze51 => ?_; subst ze51
  unfold padAt
  rw [List.getElem?_append_left hj]
theorem pre_of_pads : ∀ {c y : List Str}, (∀ n ∈ c, Nm n) → (∀ j, j < c.length → padAt c j = padAt y j) → c <+: y
  | [], _, _, _ => List.nil_prefix
  | n :: c, [], h, hp => by
    have := hp 0 (by simp)
    simp only [padAt, List.getElem?_cons_zero, List.getElem?_nil, Option.getD_some, Option.getD_none] at this
    exact absurd (by rw [this]; rfl) (h n (by simp)).1
  | n :: c, m :: y, h, hp => by
    have := hp 0 (by simp)
    simp only [padAt, List.getElem?_cons_zero, Option.getD_some] at this
    subst this
    refine (List.prefix_cons_inj n).mpr (pre_of_pads (fun k hk => h k (by simp [hk])) fun j hj => ?_)
    have := hp (j + 1) (by simp; lia)
    simpa [padAt] using this

theorem lcp_mid {w : Nat → Int} (hw : ∀ i, w i = 1 ∨ w i = -1) {x y z : Rw} (hx : ∀ n ∈ x.2, Nm n) (hl : x.2.length ≤ 3) (h1 : kv (rul w) x y ≤ 0) (h2 : kv (rul w) y z ≤ 0) : lcp x.2 z.2 <+: y.2 := by
  have hpx := pads_of_pre (lcp_left x.2 z.2)
  have hpz := pads_of_pre (lcp_right x.2 z.2)
  have ht : (lcp x.2 z.2).length ≤ 3 := Nat.le_trans (lcp_left x.2 z.2).length_le hl
  have hN : ∀ n ∈ lcp x.2 z.2, Nm n := fun n hn => hx n ((lcp_left x.2 z.2).subset hn)
  have key : ∀ k, k ∈ (rul w).take (lcp x.2 z.2).length ↔ ∃ j, j < (lcp x.2 z.2).length ∧ k = (j + 1, w j) := by
    generalize (lcp x.2 z.2).length = t at ht
    intro k
    match t, ht with
    | 0, _ => simp
    | 1, _ =>
      simp only [rul, List.take_succ_cons, List.take_zero, List.mem_cons, List.not_mem_nil, or_false]
      refine ⟨fun h => ⟨0, by lia, h⟩, fun ⟨j, hj, h⟩ => ?_⟩
      match j, hj with
      | 0, _ => exact h
    | 2, _ =>
      simp only [rul, List.take_succ_cons, List.take_zero, List.mem_cons, List.not_mem_nil, or_false]
      refine ⟨fun h => ?_, fun ⟨j, hj, h⟩ => ?_⟩
      · rcases h with h | h
        · exact ⟨0, by lia, h⟩
        · exact ⟨1, by lia, h⟩
      · match j, hj with
        | 0, _ => exact .inl h
        | 1, _ => exact .inr h
    | 3, _ =>
      simp only [rul, List.take_succ_cons, List.take_zero, List.mem_cons, List.not_mem_nil, or_false]
      refine ⟨fun h => ?_, fun ⟨j, hj, h⟩ => ?_⟩
      · rcases h with h | h | h
        · exact ⟨0, by lia, h⟩
        · exact ⟨1, by lia, h⟩
        · exact ⟨2, by lia, h⟩
      · match j, hj with
        | 0, _ => exact .inl h
        | 1, _ => exact .inr (.inl h)
        | 2, _ => exact .inr (.inr h)
  have hmid := cc_mid (lcp x.2 z.2).length (rul_way hw) h1 h2 (fun k hk => by
    refine e1_2 ((key k).mp hk) fun j hj ze52 => ?_; subst ze52
    simp [cc, sgS, ← hpx j hj, ← hpz j hj, lts_irrefl])
  refine pre_of_pads hN fun j hj => ?_
  have := hmid (j + 1, w j) ((key _).mpr ⟨j, hj, rfl⟩)
  rw [hpx j hj]
  simp only [cc, sgS] at this
  cases q1 : lts (padAt x.2 j) (padAt y.2 j) with
  | true => simp [q1] at this
  | false => cases q2 : lts (padAt y.2 j) (padAt x.2 j) with
    | true => simp [q1, q2] at this
    | false => exact lts_tri q1 q2

/-! ### loops that change little -/
theorem for_keep {x : String} {b : Ro → Option (Fl × Ro)} (I : Ro → Prop) : ∀ {ds : List PyData} {ρ : Ro}, (∀ d ∈ ds, ∀ ρ, I ρ → ∃ ρ', b (upd ρ x (.val d)) = some (.next, ρ') ∧ I ρ') → I ρ →
    ∃ ρ', forD (fun d ρ => some (upd ρ x (.val d))) b ds ρ = some (.next, ρ') ∧ I ρ'
  | [], ρ, _, h => ⟨ρ, rfl, h⟩
  | d :: ds, ρ, hb, h => by
    refine e1_2 (hb d (by simp) ρ h) fun ρ₁ g1 g2 => ?_
    obtain ⟨ρ₂, g3, g4⟩ := for_keep I (ds := ds) (fun d hd => hb d (by simp [hd])) g2
    refine ⟨ρ₂, ?_, g4⟩
    simp only [forD_cons, g1]; exact g3

theorem ex_forR {C : String → List PyData → Option PyData} {K : PyData → PyData → PyData → Option PyData} {ρ : Ro} {x : String} {lo hi : X} {a : List S} {l h : PyData} {ds : List PyData} (h1 : evX C K ρ lo = some l) (h2 : evX C K ρ hi = some h) (h3 : rangeD l h = some ds) :
    exS C K (.forR x lo hi a) ρ = forD (fun d ρ => some (upd ρ x (.val d))) (fun ρ => exSs C K a ρ) ds ρ := by
  (first | rw [exS_assign] | rw [exS_assignC] | rw [exS_setTrue] | rw [exS_unpack] | rw [exS_swap] | rw [exS_swapOwn] | rw [exS_swapComp] | rw [exS_newOwn] | rw [exS_freeze] | rw [exS_append] | rw [exS_pop] | rw [exS_aug] | rw [exS_ite] | rw [exS_whl] | rw [exS_for1] | rw [exS_forT] | rw [exS_forR] | rw [exS_forE] | rw [exS_ret] | rw [exS_brk] | rw [exS_cont] | rw [exS_try] | rw [exS_dead]); simp only [h1, h2, h3]
theorem ex_for1 {C : String → List PyData → Option PyData} {K : PyData → PyData → PyData → Option PyData} {ρ : Ro} {x : String} {src : X} {a : List S} {d : PyData} {ds : List PyData} (h1 : evX C K ρ src = some d) (h2 : itemsD d = some ds) :
    exS C K (.for1 x src a) ρ = forD (fun d ρ => some (upd ρ x (.val d))) (fun ρ => exSs C K a ρ) ds ρ := by
  (first | rw [exS_assign] | rw [exS_assignC] | rw [exS_setTrue] | rw [exS_unpack] | rw [exS_swap] | rw [exS_swapOwn] | rw [exS_swapComp] | rw [exS_newOwn] | rw [exS_freeze] | rw [exS_append] | rw [exS_pop] | rw [exS_aug] | rw [exS_ite] | rw [exS_whl] | rw [exS_for1] | rw [exS_forT] | rw [exS_forR] | rw [exS_forE] | rw [exS_ret] | rw [exS_brk] | rw [exS_cont] | rw [exS_try] | rw [exS_dead]); simp only [h1, h2]
theorem range0 {b : Int} (h1 : -1048576 < b) (h2 : b < 1048576) : rangeD (.int 0) (.int b) = some ((List.range b.toNat).map fun i : Nat => .int (i : Nat)) := by
  rw [rangeD_int]
  rw [if_pos (by simp; lia)]
  simp

theorem cut_both {α : Type} (l : List α) {s e : Nat} (h1 : s ≤ e) (h2 : e ≤ l.length) : cutD l (some (s : Int)) (some (e : Int)) = (l.drop s).take (e - s) := by
  simp only [cutD, clampD_nat]
  rw [Nat.min_eq_left h2, Nat.min_eq_left (by lia)]

/-! ### _law_ends_tell -/
noncomputable def enIn : List S := [.ite (.cmp .ne (.call "commonpath" [.slc (v "places") (v "start") (.bin .add (v "end") (.int 1))])
          (.call "commonpath" [.list [.idx (v "places") (v "start"), .idx (v "places") (v "end")]]))
        [.ret (.bool false)] []]
noncomputable def enOut : List S := [.forR "start" (.int 0) (.bin .sub (v "end") (.int 1)) enIn]

theorem ends_ok (m : Nat) {K : PyData → PyData → PyData → Option PyData} {w : Nat → Int} (hw : ∀ i, w i = 1 ∨ w i = -1) {tour : List Rw} (hN : ∀ a ∈ tour, (∀ n ∈ a.2, Nm n) ∧ a.2.length ≤ 3) (hl : tour.length ≤ 50) (hp : tour.Pairwise (fun a b => kv (rul w) a b ≤ 0)) :
    callX tabOf K (m + 2) "_law_ends_tell" [strL (tour.map fun a => P a.2)] = some (.bool true) := by
  refine call_of (by decide) (show tabOf "_law_ends_tell" = some fEndsTell from rfl) rfl ?_
  have hlen : biD "len" [strL (tour.map fun a => P a.2)] = some (.int (tour.length : Nat)) := by simp [biD_lenL, strL]
  obtain ⟨ρ', g1, g2⟩ := for_keep (x := "end") (b := fun ρ => exSs (callX tabOf K (m + 1)) K enOut ρ) (fun ρ => ρ "places" = .val (strL (tour.map fun a => P a.2))) (ds := (List.range tour.length).map fun i : Nat => .int (i : Nat))
    (ρ := upd (fun _ => .no) "places" (.val (strL (tour.map fun a => P a.2)))) (fun d hd ρ hρ => by
      refine e1_2 (List.mem_map.mp hd) fun e he ze53 => ?_; subst ze53
      have he := List.mem_range.mp he
      obtain ⟨ρ₁, k1, k2⟩ := for_keep (x := "start") (b := fun ρ => exSs (callX tabOf K (m + 1)) K enIn ρ) (fun ρ => ρ "places" = .val (strL (tour.map fun a => P a.2)) ∧ ρ "end" = .val (.int (e : Nat))) (ds := (List.range ((e : Int) - 1).toNat).map fun i : Nat => .int (i : Nat))
        (ρ := upd ρ "end" (.val (.int (e : Nat)))) (fun d hd ρ hρ => by
          refine e1_2 (List.mem_map.mp hd) fun s hs ze54 => ?_; subst ze54
          have hs := List.mem_range.mp hs
          refine ⟨upd ρ "start" (.val (.int (s : Nat))), ?_, hρ.1, hρ.2⟩
          have f1 : upd ρ "start" (.val (.int (s : Nat))) "places" = .val (strL (tour.map fun a => P a.2)) := hρ.1
          have f2 : upd ρ "start" (.val (.int (s : Nat))) "end" = .val (.int (e : Nat)) := hρ.2
          have f3 : upd ρ "start" (.val (.int (s : Nat))) "start" = .val (.int (s : Nat)) := rfl
          have b1 : binD .add (.int (e : Nat)) (.int 1) = some (.int ((e + 1 : Nat) : Int)) := rfl
          have hsl : slcD (strL (tour.map fun a => P a.2)) (.int (s : Nat)) (.int ((e + 1 : Nat) : Int)) = some (.list ((((tour.drop s).take (e + 1 - s)).map fun a => P a.2).map .str)) := by
            simp only [slcD_list, strL, partD_int]
            rw [cut_both _ (by lia) (by simp; lia)]
            simp [List.map_take, List.map_drop]
          have hes : s < tour.length := by lia
          have i1 : idxD (strL (tour.map fun a => P a.2)) (.int (s : Nat)) = some (.str (P (tour[s]).2)) := by simp [idxD_list, strL, hes]
          have i2 : idxD (strL (tour.map fun a => P a.2)) (.int (e : Nat)) = some (.str (P (tour[e]).2)) := by simp [idxD_list, strL, he]
          have hsub : ∀ a ∈ (tour.drop s).take (e + 1 - s), a ∈ tour := fun a ha => List.mem_of_mem_drop (List.mem_of_mem_take ha)
          have hms : tour[s] ∈ (tour.drop s).take (e + 1 - s) := by
            rw [List.mem_iff_getElem]
            refine ⟨0, by simp; lia, ?_⟩
            rw [List.getElem_take, List.getElem_drop]; rfl
          have hme : tour[e] ∈ (tour.drop s).take (e + 1 - s) := by
            rw [List.mem_iff_getElem]
            refine ⟨e - s, by simp; lia, ?_⟩
            rw [List.getElem_take, List.getElem_drop]
            congr 1; lia
          have hc : ∀ {l : List Rw}, (∀ a ∈ l, a ∈ tour) → (l.map fun a => P a.2).map comps = l.map fun a => a.2 := fun {l} hl => by
            rw [List.map_map]
            exact List.map_congr_left fun a ha => comps_P (hN a (hl a ha)).1
          have c1 := cpath_ok (K := K) m (d := .list ((((tour.drop s).take (e + 1 - s)).map fun a => P a.2).map .str)) (xs := ((tour.drop s).take (e + 1 - s)).map fun a => P a.2) rfl (fun z => by
            rw [List.map_eq_nil_iff] at z
            rw [z] at hms; cases hms) (fun x hx => by
            refine e1_2 (List.mem_map.mp hx) fun a ha ze55 => ?_; subst ze55
            exact way_P (hN a (hsub a ha)).1 (hN a (hsub a ha)).2)
          have hs1 := hN _ (List.getElem_mem hes)
          have he1 := hN _ (List.getElem_mem he)
          have c2 := cpath_ok (K := K) m (d := .list [.str (P (tour[s]).2), .str (P (tour[e]).2)]) (xs := [P (tour[s]).2, P (tour[e]).2]) rfl (by simp) (fun x hx => by
            simp at hx
            rcases hx with rfl | rfl
            · exact way_P hs1.1 hs1.2
            · exact way_P he1.1 he1.2)
          rw [hc hsub] at c1
          have hl2 : lcpAll ([P (tour[s]).2, P (tour[e]).2].map comps) = lcp (tour[s]).2 (tour[e]).2 := by
            simp [lcpAll, comps_P hs1.1, comps_P he1.1]
          rw [hl2] at c2
          have heq : lcpAll (((tour.drop s).take (e + 1 - s)).map fun a => a.2) = lcp (tour[s]).2 (tour[e]).2 := by
            refine pre_anti (lcp_most (lcpAll_pre _ (List.mem_map.mpr ⟨_, hms, rfl⟩)) (lcpAll_pre _ (List.mem_map.mpr ⟨_, hme, rfl⟩))) (lcpAll_most (fun z => by
              rw [List.map_eq_nil_iff] at z
              rw [z] at hms; cases hms) fun l hl => ?_)
            refine e1_2 (List.mem_map.mp hl) fun y hy ze56 => ?_; subst ze56
            obtain ⟨i, hi, rfl⟩ := List.mem_iff_getElem.mp hy
            rw [List.getElem_take, List.getElem_drop]
            simp only [List.length_take, List.length_drop] at hi
            rw [List.pairwise_iff_getElem] at hp
            by_cases h0 : i = 0
            · subst h0; exact lcp_left _ _
            · by_cases h9 : s + i = e
              · subst h9; exact lcp_right _ _
              · exact lcp_mid hw hs1.1 hs1.2 (hp s (s + i) _ _ (by lia)) (hp (s + i) e _ _ (by lia))
          rw [heq] at c1
          have hok : PyData.strOk (P (lcp (tour[s]).2 (tour[e]).2)) = true := P_ok fun n hn => (hs1.1 n ((lcp_left _ _).subset hn)).2.2.2.1
          have hne : cmpD .ne (.str (P (lcp (tour[s]).2 (tour[e]).2))) (.str (P (lcp (tour[s]).2 (tour[e]).2))) = some (.bool false) := ne_self (by simpa [shal_none, shal_bool, shal_int, shal_str, shal_list, shal_tuple] using hok)
          unfold enIn
          refine exs_one ?_
          rw [ex_ite_f (by simp only [evX_var, evX_int, evX_bin, evX_cmp, evX_list, evX_idx, evX_slc, evX_call, evXs_nil, evXs_cons, v, f1, f2, f3, b1, hsl, i1, i2, c1, c2, hne, evT_cmp, truthyD_bool])]
          rfl) ⟨hρ, by simp [upd]⟩
      refine ⟨ρ₁, ?_, k2.1⟩
      have b2 : binD .sub (.int (e : Nat)) (.int 1) = some (.int ((e : Int) - 1)) := rfl
      have f1 : upd ρ "end" (.val (.int (e : Nat))) "end" = .val (.int (e : Nat)) := rfl
      have : exS (callX tabOf K (m + 1)) K (.forR "start" (.int 0) (.bin .sub (v "end") (.int 1)) enIn) (upd ρ "end" (.val (.int (e : Nat)))) = some (.next, ρ₁) := by
        rw [ex_forR (l := .int 0) (h := .int ((e : Int) - 1)) (by simp [evX_int]) (by simp only [evX_var, evX_int, evX_bin, v, f1, b2]) (range0 (b := (e : Int) - 1) (by lia) (by lia))]
        exact k1
      show exSs (callX tabOf K (m + 1)) K [_] _ = _
      exact exs_one this) rfl
  have f1 : upd (fun _ => .no) "places" (.val (strL (tour.map fun a => P a.2))) "places" = .val (strL (tour.map fun a => P a.2)) := rfl
  have r0 : rangeD (.int 0) (.int (tour.length : Nat)) = some ((List.range tour.length).map fun i : Nat => .int (i : Nat)) := by
    rw [range0 (by lia) (by lia), Int.toNat_natCast]
  have st : exS (callX tabOf K (m + 1)) K (.forR "end" (.int 0) (.bi "len" [v "places"]) enOut) (upd (fun _ => .no) "places" (.val (strL (tour.map fun a => P a.2)))) = some (.next, ρ') := by
    rw [ex_forR (l := .int 0) (h := .int (tour.length : Nat)) (by simp [evX_int]) (by simp only [evX_var, evX_bi, evXs_nil, evXs_cons, v, f1, hlen]) r0]
    exact g1
  exact Runs.next st (Runs.ret (by simp [evX_bool]))
end Mine
end

section
open PySem PySem.W PyProof.Rows
namespace Mine
set_option tactic.hygienic false

/-! ### sorting texts -/
noncomputable def leL (x y : Str) : Prop := lts y x = false
theorem leL_trans {a b c : Str} (h1 : leL a b) (h2 : leL b c) : leL a c := by
  unfold leL at *
  cases h : lts c a with
  | false => rfl
  | true =>
    cases h3 : lts a b with
    | true => rw [lts_trans h h3] at h2; cases h2
    | false =>
      have := lts_tri h3 h1
      subst this
      rw [h] at h2; cases h2
theorem insL_perm (x : Str) : ∀ l : List Str, (insS x l).Perm (x :: l)
  | [] => List.Perm.refl _
  | y :: ys => by
    unfold insS
    split
    · exact List.Perm.refl _
    · exact ((insL_perm x ys).cons y).trans (List.Perm.swap x y ys)
theorem sortS_self : ∀ l : List Str, (sortS l).Perm l
  | [] => List.Perm.refl _
  | x :: xs => (insL_perm x (sortS xs)).trans ((sortS_self xs).cons x)
set_option tactic.hygienic true in
theorem insL_sorted (x : Str) : ∀ l : List Str, l.Pairwise leL → (insS x l).Pairwise leL
  | [], _ => by simp [insS]
  | y :: ys, h => by
    unfold insS
    refine e0_2 (List.pairwise_cons.mp h) fun h1 h2 => ?_
    split
    · rename_i hlt
      have hxy : leL x y := lts_asymm (by simpa [lts, cl] using hlt)
      refine List.pairwise_cons.mpr ⟨fun z hz => ?_, h⟩
      rcases List.mem_cons.mp hz with rfl | hz
      · exact hxy
      · exact leL_trans hxy (h1 z hz)
    · rename_i hlt
      have hyx : leL y x := by
        unfold leL lts
        exact decide_eq_false hlt
      refine List.pairwise_cons.mpr ⟨fun z hz => ?_, insL_sorted x ys h2⟩
      rcases List.mem_cons.mp ((insL_perm x ys).mem_iff.mp hz) with rfl | hz
      · exact hyx
      · exact h1 z hz
theorem sortL_sorted : ∀ l : List Str, (sortS l).Pairwise leL
  | [] => List.Pairwise.nil
  | x :: xs => insL_sorted x _ (sortL_sorted xs)
theorem sortL_perm {a b : List Str} (h : a.Perm b) : sortS a = sortS b :=
  List.Perm.eq_of_pairwise (le := leL) (fun x y _ _ h1 h2 => lts_tri h2 h1) (sortL_sorted a) (sortL_sorted b) ((sortS_self a).trans (h.trans (sortS_self b).symm))

/-! ### the folders that are entered -/
noncomputable def climbN : Nat → List Str → List (List Str)
  | 0, _ => []
  | j + 1, as => as :: climbN j as.dropLast
noncomputable def ent (ms : List Str) : List (List Str) → List (List Str)
  | [] => []
  | ns :: r => climbN (ns.length - (lcp ms ns).length) ns ++ ent ns r

theorem climbN_len : ∀ (j : Nat) (as : List Str), (climbN j as).length = j
  | 0, _ => rfl
  | j + 1, as => by simp [climbN, climbN_len j]
theorem ent_len : ∀ (ls : List (List Str)) (ms : List Str), (∀ l ∈ ls, l.length ≤ 3) → (ent ms ls).length ≤ 3 * ls.length
  | [], _, _ => by simp [ent]
  | ns :: r, ms, h => by
    have := ent_len r ns fun l hl => h l (by simp [hl])
    have := h ns (by simp)
    simp only [ent, List.length_append, climbN_len, List.length_cons]; lia

theorem climbN_mem : ∀ (j : Nat) (as c : List Str), j ≤ as.length → (c ∈ climbN j as ↔ c <+: as ∧ as.length - j < c.length)
  | 0, as, c, _ => by
    simp only [climbN, List.not_mem_nil, Nat.sub_zero, false_iff]
    rintro ⟨h1, h2⟩
    have := h1.length_le; lia
  | j + 1, as, c, hj => by
    rw [climbN, List.mem_cons, climbN_mem j as.dropLast c (by simp; lia)]
    simp only [List.length_dropLast]
    constructor
    · rintro (rfl | ⟨h1, h2⟩)
      · exact ⟨List.prefix_refl _, by lia⟩
      · exact ⟨h1.trans (List.dropLast_prefix as), by lia⟩
    · rintro ⟨h1, h2⟩
      by_cases e : c.length = as.length
      · exact .inl (h1.eq_of_length e)
      · have := h1.length_le
        refine .inr ⟨?_, by lia⟩
        rw [List.prefix_iff_eq_take] at h1
        rw [h1, List.dropLast_eq_take]
        exact List.take_prefix_take_left (by lia)
theorem climbN_nodup : ∀ (j : Nat) (as : List Str), j ≤ as.length → (climbN j as).Nodup
  | 0, _, _ => List.nodup_nil
  | j + 1, as, hj => by
    refine List.nodup_cons.mpr ⟨fun h => ?_, climbN_nodup j as.dropLast (by simp; lia)⟩
    have := ((climbN_mem j as.dropLast as (by simp; lia)).mp h).1.length_le
    simp only [List.length_dropLast] at this; lia

theorem step_mem {ms ns c : List Str} : c ∈ climbN (ns.length - (lcp ms ns).length) ns ↔ c <+: ns ∧ ¬ c <+: ms := by
  rw [climbN_mem _ _ _ (by lia)]
  have hl := (lcp_right ms ns).length_le
  refine and_congr_right fun hc => ⟨fun h h' => ?_, fun h => ?_⟩
  · have := (lcp_most h' hc).length_le
    lia
  · refine Nat.lt_of_not_le fun h' => h ?_
    have h3 : c <+: lcp ms ns := by
      have hr := lcp_right ms ns
      rw [List.prefix_iff_eq_take] at hc hr
      rw [hc, hr]
      exact List.take_prefix_take_left (by rw [hc, hr] at h'; simp only [List.length_take] at h'; have := congrArg List.length hc; have := congrArg List.length hr; simp only [List.length_take] at *; lia)
    exact h3.trans (lcp_left ms ns)

theorem ent_mem : ∀ {ls : List (List Str)} {ms c : List Str}, ¬ c <+: ms → (c ∈ ent ms ls ↔ ∃ ns ∈ ls, c <+: ns)
  | [], _, _, _ => by simp [ent]
  | ns :: r, ms, c, h => by
    rw [ent, List.mem_append, step_mem]
    by_cases hc : c <+: ns
    · exact ⟨fun _ => ⟨ns, by simp, hc⟩, fun _ => .inl ⟨hc, h⟩⟩
    · rw [ent_mem hc]
      constructor
      · rintro (⟨h1, _⟩ | ⟨l, hl, h1⟩)
        · exact absurd h1 hc
        · exact ⟨l, by simp [hl], h1⟩
      · rintro ⟨l, hl, h1⟩
        rcases List.mem_cons.mp hl with rfl | hl
        · exact absurd h1 hc
        · exact .inr ⟨l, hl, h1⟩
theorem ent_nil : ∀ {ls : List (List Str)} {ms : List Str}, [] ∉ ent ms ls
  | [], _ => by simp [ent]
  | ns :: r, ms => by
    rw [ent, List.mem_append, step_mem]
    rintro (⟨_, h⟩ | h)
    · exact h List.nil_prefix
    · exact ent_nil h

section
variable {w : Nat → Int} (hw : ∀ i, w i = 1 ∨ w i = -1)
include hw
theorem not_again {x : Rw} {c : List Str} (hx : c <+: x.2) (hN : ∀ n ∈ x.2, Nm n) (hl : x.2.length ≤ 3) : ∀ (l : List Rw) (y : Rw), (y = x ∨ kv (rul w) x y ≤ 0) → (∀ z ∈ l, kv (rul w) x z ≤ 0) → (∀ z ∈ l, kv (rul w) y z ≤ 0) → l.Pairwise (fun a b => kv (rul w) a b ≤ 0) → c ∉ ent y.2 (l.map fun a => a.2)
  | [], y, _, _, _, _ => by simp [ent]
  | z :: r, y, h1, h2, h3, h4 => by
    rw [List.map_cons, ent, List.mem_append, step_mem]
    refine e0_2 (List.pairwise_cons.mp h4) fun p1 p2 => ?_
    rintro (⟨q1, q2⟩ | h)
    · rcases h1 with rfl | h1
      · exact q2 hx
      · exact q2 ((lcp_most hx q1).trans (lcp_mid hw hN hl h1 (h3 z (by simp))))
    · exact not_again hx hN hl r z (.inr (h2 z (by simp))) (fun a ha => h2 a (by simp [ha])) p1 p2 h
theorem ent_nodup : ∀ {l : List Rw} {ms : List Str}, (∀ a ∈ l, (∀ n ∈ a.2, Nm n) ∧ a.2.length ≤ 3) → l.Pairwise (fun a b => kv (rul w) a b ≤ 0) → (ent ms (l.map fun a => a.2)).Nodup
  | [], _, _, _ => by simp [ent]
  | x :: r, ms, h1, h2 => by
    refine e0_2 (List.pairwise_cons.mp h2) fun p1 p2 => ?_
    have hx := h1 x (by simp)
    rw [List.map_cons, ent, List.nodup_append]
    refine ⟨climbN_nodup _ _ (by lia), ent_nodup (fun a ha => h1 a (by simp [ha])) p2, fun a ha b hb => ?_⟩
    rintro rfl
    exact not_again hw (step_mem.mp ha).1 hx.1 hx.2 r x (.inl rfl) p1 p1 p2 hb
end

/-! ### the fronts -/
noncomputable def addF (F : List (List Str)) (c : List Str) : List (List Str) := if c ∈ F then F else F ++ [c]
noncomputable def frIn (ns : List Str) (F : List (List Str)) (is : List Nat) : List (List Str) := is.foldl (fun F i => addF F (ns.take (i + 1))) F
noncomputable def frs (F : List (List Str)) (ls : List (List Str)) : List (List Str) := ls.foldl (fun F ns => frIn ns F (List.range ns.length)) F

theorem addF_mem {F : List (List Str)} {c d : List Str} : d ∈ addF F c ↔ d ∈ F ∨ d = c := by
  unfold addF
  split
  · exact ⟨.inl, fun h => h.elim id fun e => by subst e; assumption⟩
  · simp
set_option tactic.hygienic true in
theorem addF_nodup {F : List (List Str)} {c : List Str} (h : F.Nodup) : (addF F c).Nodup := by
  unfold addF
  split
  · exact h
  · rename_i hc
    rw [List.nodup_append]
    exact ⟨h, by simp, fun a ha b hb e => by simp at hb; subst hb; subst e; exact hc ha⟩
theorem frIn_mem {ns : List Str} {d : List Str} : ∀ (is : List Nat) (F : List (List Str)), d ∈ frIn ns F is ↔ d ∈ F ∨ ∃ i ∈ is, d = ns.take (i + 1)
  | [], F => by simp [frIn]
  | i :: is, F => by
    show d ∈ frIn ns (addF F (ns.take (i + 1))) is ↔ _
    rw [frIn_mem is, addF_mem]
    simp [or_assoc]
theorem frIn_nodup {ns : List Str} : ∀ (is : List Nat) (F : List (List Str)), F.Nodup → (frIn ns F is).Nodup
  | [], F, h => h
  | i :: is, F, h => frIn_nodup is _ (addF_nodup h)
theorem frs_mem {d : List Str} : ∀ (ls : List (List Str)) (F : List (List Str)), d ∈ frs F ls ↔ d ∈ F ∨ (d ≠ [] ∧ ∃ ns ∈ ls, d <+: ns)
  | [], F => by simp [frs]
  | ns :: ls, F => by
    show d ∈ frs (frIn ns F (List.range ns.length)) ls ↔ _
    rw [frs_mem ls, frIn_mem]
    have : (∃ i ∈ List.range ns.length, d = ns.take (i + 1)) ↔ (d ≠ [] ∧ d <+: ns) := by
      constructor
      · rintro ⟨i, hi, rfl⟩
        have hi := List.mem_range.mp hi
        refine ⟨fun h => ?_, List.take_prefix _ _⟩
        have := congrArg List.length h
        simp only [List.length_take, List.length_nil] at this; lia
      · rintro ⟨h1, h2⟩
        have := h2.length_le
        have h3 : 0 < d.length := List.length_pos_iff.mpr h1
        refine ⟨d.length - 1, List.mem_range.mpr (by lia), ?_⟩
        rw [List.prefix_iff_eq_take] at h2
        rw [show d.length - 1 + 1 = d.length by lia]; exact h2
    rw [this]
    constructor
    · rintro ((h | ⟨h1, h2⟩) | ⟨h1, l, hl, h2⟩)
      · exact .inl h
      · exact .inr ⟨h1, ns, by simp, h2⟩
      · exact .inr ⟨h1, l, by simp [hl], h2⟩
    · rintro (h | ⟨h1, l, hl, h2⟩)
      · exact .inl (.inl h)
      · rcases List.mem_cons.mp hl with rfl | hl
        · exact .inl (.inr ⟨h1, h2⟩)
        · exact .inr ⟨h1, l, hl, h2⟩
theorem frs_nodup : ∀ (ls : List (List Str)) (F : List (List Str)), F.Nodup → (frs F ls).Nodup
  | [], F, h => h
  | ns :: ls, F, h => frs_nodup ls _ (frIn_nodup _ _ h)

theorem ent_frs {w : Nat → Int} (hw : ∀ i, w i = 1 ∨ w i = -1) {l : List Rw} (h1 : ∀ a ∈ l, (∀ n ∈ a.2, Nm n) ∧ a.2.length ≤ 3) (h2 : l.Pairwise (fun a b => kv (rul w) a b ≤ 0)) {ls : List (List Str)} (h3 : ∀ ns, ns ∈ ls ↔ ns ∈ l.map fun a => a.2) :
    (ent [] (l.map fun a => a.2)).Perm (frs [] ls) := by
  rw [List.perm_ext_iff_of_nodup (ent_nodup hw h1 h2) (frs_nodup ls [] List.nodup_nil)]
  intro c
  rw [frs_mem]
  by_cases e : c = []
  · subst e
    exact ⟨fun h => absurd h ent_nil, fun h => by simp at h⟩
  · rw [ent_mem (fun h => e (List.prefix_nil.mp h))]
    simp [e, h3]
end Mine
end

section
open PySem PySem.W PyProof.Rows
namespace Mine
set_option tactic.hygienic false
variable {K : PyData → PyData → PyData → Option PyData}

noncomputable def pD (c : List Str) : PyData := .str (P c)

theorem sorted_P {L : List (List Str)} (hl : L.length < 64) : sortedD (L.map pD) = some (strL (sortS (L.map P))) := by
  have : strsOf (L.map pD) = some (L.map P) := by
    have e : L.map pD = (L.map P).map .str := by simp [pD]
    rw [e, strsL_map]
  unfold sortedD
  simp only [this]
  rw [if_pos (by simpa using hl)]; rfl

noncomputable def enTest : X := .bop true [.cmp .notin (v "step") (.list [.str "/", v "shared"]), .cmp .lt (.ownLen "entered") (.int 20)]
noncomputable def enBody : List S := [.append "entered" (v "step"), .assign "step" (.call "dirname" [v "step"])]

theorem en_while (m : Nat) {f : List Str} : ∀ (j : Nat) (as : List Str) (E : List (List Str)) (ρ : Ro) (fuel : Nat), as.length = f.length + j → f <+: as → j < fuel → (∀ n ∈ as, Nm n) → as.length ≤ 3 → E.length + j < 20 →
    ρ "step" = .val (pD as) → ρ "shared" = .val (pD f) → ρ "entered" = .own (E.map pD) →
    ∃ ρ', whileD (fun ρ => evT (callX tabOf K (m + 2)) K ρ enTest (evX (callX tabOf K (m + 2)) K ρ enTest)) (fun ρ => exSs (callX tabOf K (m + 2)) K enBody ρ) fuel ρ = some (.next, ρ') ∧ ρ' "entered" = .own ((E ++ climbN j as).map pD) ∧ ∀ y, y ≠ "step" → y ≠ "entered" → ρ' y = ρ y
  | j, as, E, ρ, 0, _, _, hf, _, _, _, _, _, _ => absurd hf (by lia)
  | j, as, E, ρ, fuel + 1, hj, hp, hf, hn, hl, hE, e1, e2, e3 => by
    have hslo : PyData.strOk sl = true := by decide +kernel
    have hnf : ∀ n ∈ f, Nm n := fun n hm => hn n (hp.subset hm)
    have ha : PyData.strOk (P as) = true := P_ok fun n hm => (hn n hm).2.2.2.1
    have hfo : PyData.strOk (P f) = true := P_ok fun n hm => (hnf n hm).2.2.2.1
    have q : cmpD .notin (pD as) (.list [.str sl, pD f]) = some (.bool (!(decide (sl = P as) || decide (P f = P as)))) := by
      simp [cmpD_nin, shal_str, pD, ha, hslo, hfo, eqv_ss]
    have q2 : cmpD .lt (.int ((E.map pD).length : Nat)) (.int 20) = some (.bool true) := by
      simp [cmpD_lt, ltD_int]; lia
    cases j with
    | zero =>
      have e : f = as := hp.eq_of_length (by lia)
      subst e
      refine ⟨ρ, ?_, by simpa [climbN] using e3, fun _ _ _ => rfl⟩
      have ht : evT (callX tabOf K (m + 2)) K ρ enTest (evX (callX tabOf K (m + 2)) K ρ enTest) = some false := by
        have q' : cmpD .notin (pD f) (.list [.str sl, pD f]) = some (.bool false) := by rw [q]; simp
        simp [enTest, evT_bop, evT_cmp, evTs_cons, evX_var, evX_str, evX_cmp, evX_bop, evX_list, evXs_nil, evXs_cons, v, e1, e2, sl_of, q', truthyD_bool]
      unfold whileD
      simp only [ht]
    | succ j =>
      have hne : as ≠ [] := fun z => by rw [z] at hj; simp at hj
      refine e2_1 (List.eq_nil_or_concat as |>.resolve_left hne) fun l n ze58 => ?_; subst ze58
      rw [List.concat_eq_append] at *
      have d1 : sl ≠ P (l ++ [n]) := fun z => hne (P_inj hn (ms := []) (by simp) (z.symm.trans P_nil.symm))
      have d2 : P f ≠ P (l ++ [n]) := fun z => by
        have := P_inj hnf hn z
        have := congrArg List.length this
        lia
      have q' : cmpD .notin (pD (l ++ [n])) (.list [.str sl, pD f]) = some (.bool true) := by rw [q]; simp [d1, d2]
      have ht : evT (callX tabOf K (m + 2)) K ρ enTest (evX (callX tabOf K (m + 2)) K ρ enTest) = some true := by
        simp only [enTest, evT_bop, evT_cmp, evTs_nil, evTs_cons, evX_var, evX_int, evX_str, evX_cmp, evX_bop, evX_list, evX_ownLen, evXs_nil, evXs_cons, v, e1, e2, e3, sl_of, q', q2, truthyD_bool, if_true]
      simp only [List.length_append, List.length_cons, List.length_nil] at hj hl
      have hdir := dirname_P (K := K) m (ns := l) (n := n) (fun a h => hn a (by simp [h])) (hn n (by simp)) (by lia)
      have hb : exSs (callX tabOf K (m + 2)) K enBody ρ = some (.next, upd (upd ρ "entered" (.own ((E ++ [l ++ [n]]).map pD))) "step" (.val (pD l))) := by
        have s1 : exS (callX tabOf K (m + 2)) K (.append "entered" (v "step")) ρ = some (.next, upd ρ "entered" (.own ((E ++ [l ++ [n]]).map pD))) := by
          have hv : evX (callX tabOf K (m + 2)) K ρ (v "step") = some (pD (l ++ [n])) := by simp only [evX_var, v, e1]
          (first | rw [exS_assign] | rw [exS_assignC] | rw [exS_setTrue] | rw [exS_unpack] | rw [exS_swap] | rw [exS_swapOwn] | rw [exS_swapComp] | rw [exS_newOwn] | rw [exS_freeze] | rw [exS_append] | rw [exS_pop] | rw [exS_aug] | rw [exS_ite] | rw [exS_whl] | rw [exS_for1] | rw [exS_forT] | rw [exS_forR] | rw [exS_forE] | rw [exS_ret] | rw [exS_brk] | rw [exS_cont] | rw [exS_try] | rw [exS_dead])
          simp only [hv, e3]
          rw [if_pos (by simp; lia)]
          simp
        have s2 : exS (callX tabOf K (m + 2)) K (.assign "step" (.call "dirname" [v "step"])) (upd ρ "entered" (.own ((E ++ [l ++ [n]]).map pD))) = some (.next, upd (upd ρ "entered" (.own ((E ++ [l ++ [n]]).map pD))) "step" (.val (pD l))) := by
          have hv : upd ρ "entered" (.own ((E ++ [l ++ [n]]).map pD)) "step" = .val (pD (l ++ [n])) := e1
          refine ex_set ?_
          simp only [evX_var, evX_call, evXs_nil, evXs_cons, v, hv, pD, hdir]
        simp only [enBody, exSs_nil, exSs_cons, s1, s2]
      have hp' : f <+: l := by
        rw [List.prefix_iff_eq_take] at hp
        rw [hp, List.take_append_of_le_length (by lia)]
        exact List.take_prefix _ _
      obtain ⟨ρ', g1, g2, g3⟩ := en_while m (f := f) j l (E ++ [l ++ [n]]) (upd (upd ρ "entered" (.own ((E ++ [l ++ [n]]).map pD))) "step" (.val (pD l))) fuel (by lia) hp' (by lia) (fun a h => hn a (by simp [h])) (by lia) (by simp; lia) rfl (e2) rfl
      refine ⟨ρ', ?_, by rw [g2]; simp [climbN], fun y y1 y2 => by rw [g3 y y1 y2]; simp [upd, y1, y2]⟩
      unfold whileD
      simp only [ht, hb]
      exact g1

noncomputable def enLoop : List S := [
    .swap ["step", "shared"] [v "place", .call "commonpath" [.list [v "last", v "place"]]],
    .whl enTest enBody,
    .assign "last" (v "place")]

theorem en_for (m : Nat) : ∀ (ls : List (List Str)) (ms : List Str) (E : List (List Str)) (ρ : Ro), (∀ n ∈ ms, Nm n) → ms.length ≤ 3 → (∀ l ∈ ls, (∀ n ∈ l, Nm n) ∧ l.length ≤ 3) → E.length + 3 * ls.length < 20 →
    ρ "last" = .val (pD ms) → ρ "entered" = .own (E.map pD) →
    ∃ ρ', forD (fun d ρ => some (upd ρ "place" (.val d))) (fun ρ => exSs (callX tabOf K (m + 2)) K enLoop ρ) (ls.map pD) ρ = some (.next, ρ') ∧ ρ' "entered" = .own ((E ++ ent ms ls).map pD)
  | [], ms, E, ρ, _, _, _, _, _, e2 => ⟨ρ, rfl, by simpa [ent] using e2⟩
  | ns :: r, ms, E, ρ, h1, h2, h3, hE, e1, e2 => by
    simp only [List.length_cons] at hE
    have hns := h3 ns (by simp)
    generalize hρ : upd ρ "place" (.val (pD ns)) = ρ₁
    have f1 : ρ₁ "place" = .val (pD ns) := by rw [← hρ]; simp [upd]
    have f2 : ρ₁ "last" = .val (pD ms) := by rw [← hρ]; simp [upd, e1]
    have f3 : ρ₁ "entered" = .own (E.map pD) := by rw [← hρ]; simp [upd, e2]
    have c := cpath_ok (K := K) (m + 1) (d := .list [pD ms, pD ns]) (xs := [P ms, P ns]) rfl (by simp) (fun x hx => by
      simp at hx
      rcases hx with rfl | rfl
      · exact way_P h1 h2
      · exact way_P hns.1 hns.2)
    have hl2 : lcpAll ([P ms, P ns].map comps) = lcp ms ns := by
      simp [lcpAll, comps_P h1, comps_P hns.1]
    rw [hl2] at c
    generalize hρ₂ : upd (upd ρ₁ "shared" (.val (pD (lcp ms ns)))) "step" (.val (pD ns)) = ρ₂
    have s1 : exS (callX tabOf K (m + 2)) K (.swap ["step", "shared"] [v "place", .call "commonpath" [.list [v "last", v "place"]]]) ρ₁ = some (.next, ρ₂) := by
      simp only [exS_swap, evX_var, evX_list, evX_call, evXs_nil, evXs_cons, v, f1, f2, c]
      rw [← hρ₂]; rfl
    have hpre := lcp_right ms ns
    have hle := hpre.length_le
    obtain ⟨ρ₃, g1, g2, g3⟩ := en_while (K := K) m (f := lcp ms ns) (ns.length - (lcp ms ns).length) ns E ρ₂ WN (by lia) hpre (by unfold WN; lia) hns.1 hns.2 (by lia) (by rw [← hρ₂]; simp [upd]) (by rw [← hρ₂]; simp [upd]) (by rw [← hρ₂]; simp [upd, f3])
    have s2 : exS (callX tabOf K (m + 2)) K (.whl enTest enBody) ρ₂ = some (.next, ρ₃) := by (first | rw [exS_assign] | rw [exS_assignC] | rw [exS_setTrue] | rw [exS_unpack] | rw [exS_swap] | rw [exS_swapOwn] | rw [exS_swapComp] | rw [exS_newOwn] | rw [exS_freeze] | rw [exS_append] | rw [exS_pop] | rw [exS_aug] | rw [exS_ite] | rw [exS_whl] | rw [exS_for1] | rw [exS_forT] | rw [exS_forR] | rw [exS_forE] | rw [exS_ret] | rw [exS_brk] | rw [exS_cont] | rw [exS_try] | rw [exS_dead]); exact g1
    have k1 : ρ₃ "place" = .val (pD ns) := by rw [g3 _ (by decide) (by decide), ← hρ₂]; simp [upd, f1]
    have s3 : exS (callX tabOf K (m + 2)) K (.assign "last" (v "place")) ρ₃ = some (.next, upd ρ₃ "last" (.val (pD ns))) := ex_set (by simp only [evX_var, v, k1])
    have hb : exSs (callX tabOf K (m + 2)) K enLoop ρ₁ = some (.next, upd ρ₃ "last" (.val (pD ns))) := by
      simp only [enLoop, exSs_nil, exSs_cons, s1, s2, s3]
    obtain ⟨ρ', q1, q2⟩ := en_for m r ns (E ++ climbN (ns.length - (lcp ms ns).length) ns) (upd ρ₃ "last" (.val (pD ns))) hns.1 hns.2 (fun l hl => h3 l (by simp [hl])) (by rw [List.length_append, climbN_len]; lia) rfl (g2)
    refine ⟨ρ', ?_, by rw [q2]; simp [ent]⟩
    simp only [List.map_cons, forD_cons]
    rw [hρ, hb]; exact q1

theorem entered_ok (m : Nat) {ls : List (List Str)} (h : ∀ l ∈ ls, (∀ n ∈ l, Nm n) ∧ l.length ≤ 3) (hl : ls.length ≤ 5) : callX tabOf K (m + 3) "_law_entered" [strL (ls.map P)] = some (strL (sortS ((ent [] ls).map P))) := by
  refine call_of (by decide) (show tabOf "_law_entered" = some fEntered from rfl) rfl ?_
  obtain ⟨ρ', g1, g2⟩ := en_for (K := K) m ls [] [] (upd (upd (upd (fun _ => .no) "places" (.val (strL (ls.map P)))) "last" (.val (.str sl))) "entered" (.own [])) (by simp) (by simp) h (by simp; lia) (by simp [upd, pD, P_nil]) rfl
  refine Runs.next (by simp [exS_swapOwn, evX_str, sl_of]; rfl) ?_
  have e : (ls.map P).map PyData.str = ls.map pD := by simp [pD]
  have st : exS (callX tabOf K (m + 2)) K (.for1 "place" (v "places") enLoop) (upd (upd (upd (fun _ => .no) "places" (.val (strL (ls.map P)))) "last" (.val (.str sl))) "entered" (.own [])) = some (.next, ρ') := by
    rw [ex_for1 (d := strL (ls.map P)) (ds := ls.map pD) (by simp [evX_var, v, upd]) (by rw [← e]; rfl)]
    exact g1
  refine Runs.next st (Runs.ret ?_)
  have := ent_len ls [] fun l hl => (h l hl).2
  rw [List.nil_append] at g2
  simp only [evX_ownSorted, g2]
  exact sorted_P (by lia)

/-! ### _law_fronts -/
noncomputable def frTest (e : X) : X := .ownNotIn e "fronts"
noncomputable def frBody : List S := [
      .ite (.ownNotIn (.call "_law_path" [.slc (v "names") .nil (v "k")]) "fronts")
        [.append "fronts" (.call "_law_path" [.slc (v "names") .nil (v "k")])] []]
noncomputable def frLoop : List S := [.forR "k" (.int 1) (.bin .add (.bi "len" [v "names"]) (.int 1)) frBody]

theorem fr_in (m : Nat) {ns : List Str} (hn : ∀ n ∈ ns, Nm n) (hl : ns.length ≤ 3) : ∀ (is : List Nat) (F : List (List Str)) (ρ : Ro), (∀ c ∈ F, ∀ n ∈ c, Nm n) → F.length + is.length ≤ 1000 → ρ "names" = .val (strL ns) → ρ "fronts" = .own (F.map pD) →
    ∃ ρ', forD (fun d ρ => some (upd ρ "k" (.val d))) (fun ρ => exSs (callX tabOf K (m + 1)) K frBody ρ) (is.map fun i : Nat => .int ((i + 1 : Nat) : Int)) ρ = some (.next, ρ') ∧ ρ' "fronts" = .own ((frIn ns F is).map pD) ∧ (∀ c ∈ frIn ns F is, ∀ n ∈ c, Nm n) ∧ (frIn ns F is).length ≤ F.length + is.length
  | [], F, ρ, hF, _, _, e2 => ⟨ρ, rfl, e2, hF, by simp [frIn]⟩
  | i :: is, F, ρ, hF, hc, e1, e2 => by
    simp only [List.length_cons] at hc
    generalize hρ : upd ρ "k" (.val (.int ((i + 1 : Nat) : Int))) = ρ₁
    have f1 : ρ₁ "names" = .val (strL ns) := by rw [← hρ]; simp [upd, e1]
    have f2 : ρ₁ "fronts" = .own (F.map pD) := by rw [← hρ]; simp [upd, e2]
    have f3 : ρ₁ "k" = .val (.int ((i + 1 : Nat) : Int)) := by rw [← hρ]; simp [upd]
    have hs : slcD (strL ns) .none (.int ((i + 1 : Nat) : Int)) = some (.list ((ns.take (i + 1)).map .str)) := by
      simp only [slcD_list, strL, partD_none, partD_int, cut_to, List.map_take]
    have hN : ∀ n ∈ ns.take (i + 1), Nm n := fun n h => hn n (List.mem_of_mem_take h)
    have hp := path_ok (K := K) m hN (by simp; lia)
    have hv : evX (callX tabOf K (m + 1)) K ρ₁ (.call "_law_path" [.slc (v "names") .nil (v "k")]) = some (pD (ns.take (i + 1))) := by
      simp only [evX_nil, evX_var, evX_slc, evX_call, evXs_nil, evXs_cons, v, f1, f3, hs, hp]; rfl
    have hok : shal 4 (pD (ns.take (i + 1))) = true := by
      simp only [pD, shal_str]; exact P_ok fun n h => (hN n h).2.2.2.1
    have hall : (F.map pD).all (shal 4) = true := by
      rw [List.all_eq_true]
      intro y hy
      refine e1_2 (List.mem_map.mp hy) fun c hc ze59 => ?_; subst ze59
      simp only [pD, shal_str]; exact P_ok fun n h => (hF c hc n h).2.2.2.1
    have hany : ((F.map pD).any fun y => PyData.eqv y (pD (ns.take (i + 1)))) = decide (ns.take (i + 1) ∈ F) := by
      rw [Bool.eq_iff_iff, decide_eq_true_eq, List.any_eq_true]
      constructor
      · rintro ⟨y, hy, h⟩
        refine e1_2 (List.mem_map.mp hy) fun c hc ze60 => ?_; subst ze60
        rw [pD, pD, eqv_ss, decide_eq_true_eq] at h
        rw [← P_inj (hF c hc) hN h]; exact hc
      · intro h
        exact ⟨_, List.mem_map.mpr ⟨_, h, rfl⟩, by rw [pD, eqv_ss]; simp⟩
    have ht : evX (callX tabOf K (m + 1)) K ρ₁ (.ownNotIn (.call "_law_path" [.slc (v "names") .nil (v "k")]) "fronts") = some (.bool (!decide (ns.take (i + 1) ∈ F))) := by
      (first | rw [evX_nil] | rw [evX_var] | rw [evX_int] | rw [evX_str] | rw [evX_bool] | rw [evX_bin] | rw [evX_neg] | rw [evX_cmp] | rw [evX_bop] | rw [evX_not] | rw [evX_ite] | rw [evX_list] | rw [evX_tup] | rw [evX_idx] | rw [evX_slc] | rw [evX_comp] | rw [evX_compR] | rw [evX_call] | rw [evX_bi] | rw [evX_meth] | rw [evX_isBytes] | rw [evX_mapF] | rw [evX_cmpK] | rw [evX_cmpV] | rw [evX_keysOf] | rw [evX_ownLast] | rw [evX_ownLen] | rw [evX_ownNotIn] | rw [evX_ownSorted])
      simp only [hv, f2, hok, hall, Bool.and_self, if_true, hany]
    have hb : ∃ ρ₂, exSs (callX tabOf K (m + 1)) K frBody ρ₁ = some (.next, ρ₂) ∧ ρ₂ "fronts" = .own ((addF F (ns.take (i + 1))).map pD) ∧ ρ₂ "names" = .val (strL ns) := by
      by_cases e : ns.take (i + 1) ∈ F
      · refine ⟨ρ₁, ?_, by rw [addF, if_pos e]; exact f2, f1⟩
        unfold frBody
        refine exs_one ?_
        rw [ex_ite_f (by rw [ht, decide_eq_true e]; simp only [evT_ownNotIn, truthyD_bool]; rfl)]; rfl
      · refine ⟨upd ρ₁ "fronts" (.own ((F ++ [ns.take (i + 1)]).map pD)), ?_, by rw [addF, if_neg e]; simp [upd], f1⟩
        unfold frBody
        refine exs_one ?_
        rw [ex_ite_t (by rw [ht, decide_eq_false e]; simp only [evT_ownNotIn, truthyD_bool]; rfl)]
        refine exs_one ?_
        (first | rw [exS_assign] | rw [exS_assignC] | rw [exS_setTrue] | rw [exS_unpack] | rw [exS_swap] | rw [exS_swapOwn] | rw [exS_swapComp] | rw [exS_newOwn] | rw [exS_freeze] | rw [exS_append] | rw [exS_pop] | rw [exS_aug] | rw [exS_ite] | rw [exS_whl] | rw [exS_for1] | rw [exS_forT] | rw [exS_forR] | rw [exS_forE] | rw [exS_ret] | rw [exS_brk] | rw [exS_cont] | rw [exS_try] | rw [exS_dead])
        simp only [hv, f2]
        rw [if_pos (by simp; lia)]
        simp
    refine e1_3 (hb) fun ρ₂ b1 b2 b3 => ?_
    have hal : (addF F (ns.take (i + 1))).length ≤ F.length + 1 := by unfold addF; split <;> simp
    obtain ⟨ρ', g1, g2, g3, g4⟩ := fr_in m hn hl is (addF F (ns.take (i + 1))) ρ₂ (fun c hc => by
      rcases addF_mem.mp hc with h | rfl
      · exact hF c h
      · exact hN) (by lia) b3 b2
    refine ⟨ρ', ?_, g2, g3, by show (frIn ns (addF F (ns.take (i + 1))) is).length ≤ _; simp only [List.length_cons]; lia⟩
    simp only [List.map_cons, forD_cons]
    rw [hρ, b1]; exact g1

set_option tactic.hygienic true in
theorem for_cons {x : String} {b : Ro → Option (Fl × Ro)} {d : PyData} {ds : List PyData} {ρ ρ₁ : Ro} (h : b (upd ρ x (.val d)) = some (.next, ρ₁)) : forD (fun d ρ => some (upd ρ x (.val d))) b (d :: ds) ρ = forD (fun d ρ => some (upd ρ x (.val d))) b ds ρ₁ := by
  (first | rw [forD_nil] | rw [forD_cons]); simp only [h]
theorem range1 {n : Nat} (h : n < 1000) : rangeD (.int 1) (.int ((n + 1 : Nat) : Int)) = some ((List.range n).map fun i : Nat => .int ((i + 1 : Nat) : Int)) := by
  rw [rangeD_int]
  rw [if_pos (by simp; lia), show (((n + 1 : Nat) : Int) - 1).toNat = n by lia]
  congr 1
  refine List.map_congr_left fun i _ => ?_
  congr 1; lia

theorem fr_for (m : Nat) : ∀ (ls : List (List Str)) (F : List (List Str)) (ρ : Ro), (∀ l ∈ ls, (∀ n ∈ l, Nm n) ∧ l.length ≤ 3) → (∀ c ∈ F, ∀ n ∈ c, Nm n) → F.length + 3 * ls.length ≤ 60 → ρ "fronts" = .own (F.map pD) →
    ∃ ρ', forD (fun d ρ => some (upd ρ "names" (.val d))) (fun ρ => exSs (callX tabOf K (m + 1)) K frLoop ρ) (ls.map strL) ρ = some (.next, ρ') ∧ ρ' "fronts" = .own ((frs F ls).map pD) ∧ (frs F ls).length ≤ F.length + 3 * ls.length
  | [], F, ρ, _, _, _, e => ⟨ρ, rfl, e, by simp [frs]⟩
  | ns :: ls, F, ρ, h1, h2, hc, e => by
    simp only [List.length_cons] at hc
    have hns := h1 ns (by simp)
    have f1 : upd ρ "names" (.val (strL ns)) "names" = .val (strL ns) := rfl
    obtain ⟨ρ₁, g1, g2, g3, g4⟩ := fr_in (K := K) m hns.1 hns.2 (List.range ns.length) F (upd ρ "names" (.val (strL ns))) h2 (by simp; lia) f1 (e)
    rw [List.length_range] at g4
    refine e1_3 (fr_for m ls (frIn ns F (List.range ns.length)) ρ₁ (fun l hl => h1 l (by simp [hl])) g3 (by lia) g2) fun ρ' q1 q2 q3 => ?_
    refine ⟨ρ', ?_, q2, by show (frs (frIn ns F (List.range ns.length)) ls).length ≤ _; simp only [List.length_cons]; lia⟩
    have hlen : biD "len" [strL ns] = some (.int (ns.length : Nat)) := by simp [biD_lenL, strL]
    have st : exS (callX tabOf K (m + 1)) K (.forR "k" (.int 1) (.bin .add (.bi "len" [v "names"]) (.int 1)) frBody) (upd ρ "names" (.val (strL ns))) = some (.next, ρ₁) := by
      have b1 : binD .add (.int (ns.length : Nat)) (.int 1) = some (.int ((ns.length + 1 : Nat) : Int)) := rfl
      rw [ex_forR (l := .int 1) (h := .int ((ns.length + 1 : Nat) : Int)) (by simp [evX_int]) (by simp only [evX_var, evX_int, evX_bin, evX_bi, evXs_nil, evXs_cons, v, f1, hlen, b1]) (range1 (by lia))]
      exact g1
    rw [List.map_cons, for_cons (b := fun ρ => exSs (callX tabOf K (m + 1)) K frLoop ρ) (show exSs (callX tabOf K (m + 1)) K frLoop (upd ρ "names" (.val (strL ns))) = some (.next, ρ₁) from exs_one st)]
    exact q1

theorem fronts_ok (m : Nat) {ls : List (List Str)} (h : ∀ l ∈ ls, (∀ n ∈ l, Nm n) ∧ l.length ≤ 3) (hl : ls.length ≤ 5) : callX tabOf K (m + 2) "_law_fronts" [.list (ls.map strL)] = some (strL (sortS ((frs [] ls).map P))) := by
  refine call_of (by decide) (show tabOf "_law_fronts" = some fFronts from rfl) rfl ?_
  obtain ⟨ρ', g1, g2, g3⟩ := fr_for (K := K) m ls [] (upd (upd (fun _ => .no) "lists" (.val (.list (ls.map strL)))) "fronts" (.own [])) h (by simp) (by simp; lia) rfl
  refine Runs.next (by (first | rw [exS_assign] | rw [exS_assignC] | rw [exS_setTrue] | rw [exS_unpack] | rw [exS_swap] | rw [exS_swapOwn] | rw [exS_swapComp] | rw [exS_newOwn] | rw [exS_freeze] | rw [exS_append] | rw [exS_pop] | rw [exS_aug] | rw [exS_ite] | rw [exS_whl] | rw [exS_for1] | rw [exS_forT] | rw [exS_forR] | rw [exS_forE] | rw [exS_ret] | rw [exS_brk] | rw [exS_cont] | rw [exS_try] | rw [exS_dead])) ?_
  have st : exS (callX tabOf K (m + 1)) K (.for1 "names" (v "lists") frLoop) (upd (upd (fun _ => .no) "lists" (.val (.list (ls.map strL)))) "fronts" (.own [])) = some (.next, ρ') := by
    rw [ex_for1 (d := .list (ls.map strL)) (ds := ls.map strL) (by simp [evX_var, v, upd]) rfl]
    exact g1
  refine Runs.next st (Runs.ret ?_)
  rw [List.length_nil] at g3
  simp only [evX_ownSorted, g2]
  exact sorted_P (by lia)
end Mine
end

section
open PySem PySem.W PyProof.Rows
namespace Mine
set_option tactic.hygienic false

noncomputable abbrev KC : PyData → PyData → PyData → Option PyData := cmpX bCompare

structure Fd where
  n : Int
  x : Str
  qs : List Str
  ns : List Str
noncomputable def fD (f : Fd) : PyData := drD f.n f.x f.qs f.ns
noncomputable def fR (f : Fd) : Rw := (f.n, f.ns)
noncomputable def FdOk (f : Fd) : Prop := Dr 3 f.x f.qs f.ns

theorem FdOk.nm {f : Fd} (h : FdOk f) : ∀ n ∈ f.ns, Nm n := fun n hn => by
  have hp : f.ns = f.qs.foldl nstep [] := Dr.pos h
  rw [hp] at hn
  rcases nstep_mem hn with h1 | h1
  · cases h1
  · exact Dr.nm h n h1.1
theorem FdOk.len {f : Fd} (h : FdOk f) : f.ns.length ≤ 3 := Dr.nlen h
theorem FdOk.way {f : Fd} (h : FdOk f) : Way f.x := by
  refine e1_2 (Dr.root h) fun r e zz => ?_
  refine ⟨by rw [e]; rfl, Dr.sok h, by have := Dr.len h; lia, ?_⟩
  rw [Dr.cmp h]; exact Dr.nm h

theorem shal_row {f : Fd} (h : FdOk f) : shal 3 (rD (fR f)) = true := by
  simp only [rD, rowD, shal_int, shal_str, shal_tuple, rowL, fR, List.cons_append, List.all_cons, Bool.true_and, List.all_append, List.all_nil, Bool.and_true, Bool.and_eq_true]
  refine ⟨?_, P_ok fun n hn => (h.nm n hn).2.2.2.1⟩
  rw [List.all_eq_true]
  intro y hy
  refine e1_2 (List.mem_map.mp hy) fun n hn ze61 => ?_; subst ze61
  (first | rw [shal_none] | rw [shal_bool] | rw [shal_int] | rw [shal_str] | rw [shal_list] | rw [shal_tuple])
  rcases List.mem_append.mp hn with hn | hn
  · exact (h.nm n hn).2.2.2.1
  · rw [(List.mem_replicate.mp hn).2]; decide +kernel

noncomputable def wOf (s : Int) (i : Nat) : Int := 1 - 2 * (s / 2 ^ i % 2)
theorem wOf_ok (s : Int) (i : Nat) : wOf s i = 1 ∨ wOf s i = -1 := by
  unfold wOf; lia

theorem way_shal {z : Int} (h : z.natAbs ≤ 1) : PyData.strOk (wayS z) = true := by
  have : z = -1 ∨ z = 0 ∨ z = 1 := by lia
  rcases this with rfl | rfl | rfl <;> decide +kernel

theorem intsL_map : ∀ ns : List Int, intsOf (ns.map .int) = some ns
  | [] => rfl
  | n :: ns => by (first | rw [List.map_cons, intsOf_nil, intsL_map ns] | rw [List.map_cons, intsOf_cons, intsL_map ns]); rfl

theorem rules_ok {C : String → List PyData → Option PyData} {K : PyData → PyData → PyData → Option PyData} {ρ : Ro} {ns : List Int} (h : ρ "script" = .val (.list (ns.map .int))) :
    evX C K ρ (.compR (.tup [.bin .mod (.bin .add (v "c") (.int 1)) (.int 4),
    .bin .sub (.int 1) (.bin .mul (.int 2) (.bin .mod (.bin .fdiv (.bi "sum" [v "script"]) (.bin .pow (.int 2) (v "c"))) (.int 2)))]) "c" 4) = some (rulD (wOf ns.sum)) := by
  (first | rw [evX_nil] | rw [evX_var] | rw [evX_int] | rw [evX_str] | rw [evX_bool] | rw [evX_bin] | rw [evX_neg] | rw [evX_cmp] | rw [evX_bop] | rw [evX_not] | rw [evX_ite] | rw [evX_list] | rw [evX_tup] | rw [evX_idx] | rw [evX_slc] | rw [evX_comp] | rw [evX_compR] | rw [evX_call] | rw [evX_bi] | rw [evX_meth] | rw [evX_isBytes] | rw [evX_mapF] | rw [evX_cmpK] | rw [evX_cmpV] | rw [evX_keysOf] | rw [evX_ownLast] | rw [evX_ownLen] | rw [evX_ownNotIn] | rw [evX_ownSorted])
  rw [compL_all (g := fun i : Nat => PyData.int (i : Nat)) (h := fun i : Nat => tk ((i + 1) % 4, wOf ns.sum i)) fun i hi => ?_]
  · rfl
  · have hi := List.mem_range.mp hi
    have f1 : upd ρ "c" (.val (.int (i : Nat))) "c" = .val (.int (i : Nat)) := by simp [upd]
    have f2 : upd ρ "c" (.val (.int (i : Nat))) "script" = .val (.list (ns.map .int)) := by simp [upd, h]
    have b0 : biD "sum" [.list (ns.map .int)] = some (.int ns.sum) := by simp [biD_sum, intsL_map]
    have b1 : binD .add (.int (i : Nat)) (.int 1) = some (.int ((i : Int) + 1)) := rfl
    have b2 : binD .mod (.int ((i : Int) + 1)) (.int 4) = some (.int (((i + 1) % 4 : Nat) : Int)) := by
      simp only [binD_mod]; rw [if_pos (by decide)]; congr 2
    have b3 : binD .pow (.int 2) (.int (i : Nat)) = some (.int (2 ^ i)) := by
      simp only [binD_pow]; rw [if_pos (by simp; lia), Int.toNat_natCast]
    have h2 : (2 : Int) ^ i ≤ 8 ∧ 0 < (2 : Int) ^ i := by
      match i, hi with
      | 0, _ => decide
      | 1, _ => decide
      | 2, _ => decide
      | 3, _ => decide
    have b4 : binD .fdiv (.int ns.sum) (.int (2 ^ i)) = some (.int (ns.sum / 2 ^ i)) := by
      simp only [binD_fdiv]; rw [if_pos (by simp only [Bool.and_eq_true, decide_eq_true_eq]; lia)]
    have b5 : binD .mod (.int (ns.sum / 2 ^ i)) (.int 2) = some (.int (ns.sum / 2 ^ i % 2)) := by
      simp only [binD_mod]; rw [if_pos (by decide)]
    have b6 : binD .mul (.int 2) (.int (ns.sum / 2 ^ i % 2)) = some (.int (2 * (ns.sum / 2 ^ i % 2))) := by
      simp only [binD_mulI]; rw [if_pos (by simp only [Bool.and_eq_true, decide_eq_true_eq]; lia)]
    have b7 : binD .sub (.int 1) (.int (2 * (ns.sum / 2 ^ i % 2))) = some (.int (wOf ns.sum i)) := rfl
    simp only [evX_var, evX_int, evX_bin, evX_tup, evX_bi, evXs_nil, evXs_cons, v, f1, f2, b0, b1, b2, b3, b4, b5, b6, b7]
    rfl
end Mine
end

section
open PySem PySem.W PyProof.Rows
namespace Mine
set_option tactic.hygienic false

/-! ### the law -/
noncomputable def laA : List S := [
  .ite (.cmp .ne (v "table") (.comp (.call "_law_plain" [.idx (v "f") (.int 3), .idx (v "f") (.int 2)]) "f" (v "found") .nil)) [.ret (.bool false)] [],
  .ite (.cmp .ne (.call "commonpath" [.comp (.idx (v "f") (.int 0)) "f" (v "found") .nil])
      (.call "_law_path" [.call "_law_shared" [.comp (.idx (v "f") (.int 1)) "f" (v "found") .nil]])) [.ret (.bool false)] [],
  .ite (.cmp .ne (.call "commonpath" [.comp (.idx (v "r") (.int 4)) "r" (v "table") .nil])
      (.call "_law_path" [.call "_law_shared" [.comp (.idx (v "f") (.int 2)) "f" (v "found") .nil]])) [.ret (.bool false)] []]
noncomputable def laIn : List S := [.ite (.cmp .ne (.call "_law_told" [.idx (v "table") (v "i"), .idx (v "table") (v "j"), v "rules"])
          (.call "_law_due" [.idx (v "found") (v "i"), .idx (v "found") (v "j"), v "rules"])) [.ret (.bool false)] []]
noncomputable def laOut : List S := [.forR "i" (.int 0) (v "j") laIn]
noncomputable def laB : List S := [
  .forR "j" (.int 0) (.bi "len" [v "table"]) laOut,
  .assignC "tour" (.comp (.idx (v "r") (.int 4)) "r" (.call "_law_sorted" [v "table", v "rules"]) .nil),
  .ret (.bop true [.call "_law_ends_tell" [v "tour"], .cmp .eq (.call "_law_entered" [v "tour"])
    (.call "_law_fronts" [.comp (.idx (v "f") (.int 2)) "f" (v "found") .nil])])]

section
variable {fs : List Fd} (hfs : ∀ f ∈ fs, FdOk f) (hne : fs ≠ []) (hlen : fs.length ≤ 5)

noncomputable def tabD (fs : List Fd) : PyData := .list (fs.map fun f => rD (fR f))
noncomputable def fouD (fs : List Fd) : PyData := .list (fs.map fD)

theorem ne_of {C : String → List PyData → Option PyData} {K : PyData → PyData → PyData → Option PyData} {ρ : Ro} {a b : X} {d : PyData} {r : List S} (h1 : evX C K ρ a = some d) (h2 : evX C K ρ b = some d) (h3 : shal 4 d = true) : exS C K (.ite (.cmp .ne a b) r []) ρ = some (.next, ρ) := by
  have h : evX C K ρ (.cmp .ne a b) = some (.bool false) := by
    (first | rw [evX_nil] | rw [evX_var] | rw [evX_int] | rw [evX_str] | rw [evX_bool] | rw [evX_bin] | rw [evX_neg] | rw [evX_cmp] | rw [evX_bop] | rw [evX_not] | rw [evX_ite] | rw [evX_list] | rw [evX_tup] | rw [evX_idx] | rw [evX_slc] | rw [evX_comp] | rw [evX_compR] | rw [evX_call] | rw [evX_bi] | rw [evX_meth] | rw [evX_isBytes] | rw [evX_mapF] | rw [evX_cmpK] | rw [evX_cmpV] | rw [evX_keysOf] | rw [evX_ownLast] | rw [evX_ownLen] | rw [evX_ownNotIn] | rw [evX_ownSorted]); simp only [h1, h2, ne_self h3]
  rw [ex_ite_f (by rw [h]; simp only [evT_cmp, truthyD_bool])]; rfl

theorem ev_call {C : String → List PyData → Option PyData} {K : PyData → PyData → PyData → Option PyData} {ρ : Ro} {f : String} {a : X} {d : PyData} (h : evX C K ρ a = some d) : evX C K ρ (.call f [a]) = C f [d] := by
  (first | rw [evX_nil] | rw [evX_var] | rw [evX_int] | rw [evX_str] | rw [evX_bool] | rw [evX_bin] | rw [evX_neg] | rw [evX_cmp] | rw [evX_bop] | rw [evX_not] | rw [evX_ite] | rw [evX_list] | rw [evX_tup] | rw [evX_idx] | rw [evX_slc] | rw [evX_comp] | rw [evX_compR] | rw [evX_call] | rw [evX_bi] | rw [evX_meth] | rw [evX_isBytes] | rw [evX_mapF] | rw [evX_cmpK] | rw [evX_cmpV] | rw [evX_keysOf] | rw [evX_ownLast] | rw [evX_ownLen] | rw [evX_ownNotIn] | rw [evX_ownSorted]); simp only [evXs_nil, evXs_cons, h]

include hfs hne hlen
set_option tactic.hygienic true in
theorem la_A (m : Nat) {r : List S} {ρ : Ro} {d : PyData} (e1 : ρ "table" = .val (tabD fs)) (e2 : ρ "found" = .val (fouD fs)) (k : Runs (callX tabOf KC (m + 3)) KC r ρ d) : Runs (callX tabOf KC (m + 3)) KC (laA ++ r) ρ d := by
  have hv1 : evX (callX tabOf KC (m + 3)) KC ρ (v "table") = some (tabD fs) := by simp only [evX_var, v, e1]
  have hv2 : evX (callX tabOf KC (m + 3)) KC ρ (v "found") = some (fouD fs) := by simp only [evX_var, v, e2]
  have at0 : ∀ f : Fd, evX (callX tabOf KC (m + 3)) KC (upd ρ "f" (.val (fD f))) (.idx (v "f") (.int 0)) = some (.str f.x) := fun f => by
    have : upd ρ "f" (.val (fD f)) "f" = .val (fD f) := by simp [upd]
    simp only [evX_var, evX_int, evX_idx, v, this]; rfl
  have at1 : ∀ f : Fd, evX (callX tabOf KC (m + 3)) KC (upd ρ "f" (.val (fD f))) (.idx (v "f") (.int 1)) = some (strL f.qs) := fun f => by
    have : upd ρ "f" (.val (fD f)) "f" = .val (fD f) := by simp [upd]
    simp only [evX_var, evX_int, evX_idx, v, this]; rfl
  have at2 : ∀ f : Fd, evX (callX tabOf KC (m + 3)) KC (upd ρ "f" (.val (fD f))) (.idx (v "f") (.int 2)) = some (strL f.ns) := fun f => by
    have : upd ρ "f" (.val (fD f)) "f" = .val (fD f) := by simp [upd]
    simp only [evX_var, evX_int, evX_idx, v, this]; rfl
  have at3 : ∀ f : Fd, evX (callX tabOf KC (m + 3)) KC (upd ρ "f" (.val (fD f))) (.idx (v "f") (.int 3)) = some (.int f.n) := fun f => by
    have : upd ρ "f" (.val (fD f)) "f" = .val (fD f) := by simp [upd]
    simp only [evX_var, evX_int, evX_idx, v, this]; rfl
  have hc : ∀ {β : Type} (g : Fd → β), fs.map g ≠ [] := fun g z => hne (by simpa using z)
  refine Runs.next (ρ' := ρ) (ne_of (d := tabD fs) hv1 (evL_comp hv2 rfl fun f hf => ?_) ?_) (Runs.next (ρ' := ρ) ?_ (Runs.next (ρ' := ρ) ?_ k))
  · have := plain_ok (K := KC) (m + 1) (n := f.n) (hfs f hf).nm (hfs f hf).len
    (first | rw [evX_nil] | rw [evX_var] | rw [evX_int] | rw [evX_str] | rw [evX_bool] | rw [evX_bin] | rw [evX_neg] | rw [evX_cmp] | rw [evX_bop] | rw [evX_not] | rw [evX_ite] | rw [evX_list] | rw [evX_tup] | rw [evX_idx] | rw [evX_slc] | rw [evX_comp] | rw [evX_compR] | rw [evX_call] | rw [evX_bi] | rw [evX_meth] | rw [evX_isBytes] | rw [evX_mapF] | rw [evX_cmpK] | rw [evX_cmpV] | rw [evX_keysOf] | rw [evX_ownLast] | rw [evX_ownLen] | rw [evX_ownNotIn] | rw [evX_ownSorted])
    simp only [evXs_nil, evXs_cons, at3, at2]
    exact this
  · (first | rw [tabD, shal_none, List.all_eq_true] | rw [tabD, shal_bool, List.all_eq_true] | rw [tabD, shal_int, List.all_eq_true] | rw [tabD, shal_str, List.all_eq_true] | rw [tabD, shal_list, List.all_eq_true] | rw [tabD, shal_tuple, List.all_eq_true])
    intro y hy
    refine e1_2 (List.mem_map.mp hy) fun f hf ze62 => ?_; subst ze62
    exact shal_row (hfs f hf)
  · -- the paths as they are spelled
    have c1 := cpath_ok (K := KC) (m + 2) (d := .list (fs.map fun f => .str f.x)) (xs := fs.map fun f => f.x) (by simp [itemsD_list]) (hc _) (fun x hx => by
      refine e1_2 (List.mem_map.mp hx) fun f hf ze63 => ?_; subst ze63
      exact (hfs f hf).way)
    have c2 := shared_ok (K := KC) (m + 2) (ls := fs.map fun f => f.qs) (hc _) (fun l hl => by
      refine e1_2 (List.mem_map.mp hl) fun f hf ze64 => ?_; subst ze64
      exact ⟨by have := Dr.qlen (hfs f hf); unfold WN; lia, fun x hx => (Dr.nm (hfs f hf) x hx).2.2.2.1⟩)
    have hm : (fs.map fun f => f.x).map comps = fs.map fun f => f.qs := by
      rw [List.map_map]
      exact List.map_congr_left fun f hf => Dr.cmp (hfs f hf)
    rw [hm] at c1
    have hN : (∀ n ∈ lcpAll (fs.map fun f => f.qs), Nm n) ∧ (lcpAll (fs.map fun f => f.qs)).length ≤ 1000 := by
      refine e2_1 (List.exists_cons_of_ne_nil hne) fun f r' hfr => ?_
      have hf : f ∈ fs := by rw [hfr]; simp
      have := lcpAll_pre (ls := fs.map fun f => f.qs) f.qs (List.mem_map.mpr ⟨f, hf, rfl⟩)
      exact ⟨fun n hn => Dr.nm (hfs f hf) n (this.subset hn), by have := this.length_le; have := Dr.qlen (hfs f hf); lia⟩
    have c3 := path_ok (K := KC) (m + 2) hN.1 hN.2
    refine ne_of (d := .str (P (lcpAll (fs.map fun f => f.qs)))) ?_ ?_ (by (first | rw [shal_none] | rw [shal_bool] | rw [shal_int] | rw [shal_str] | rw [shal_list] | rw [shal_tuple]); exact P_ok fun n hn => (hN.1 n hn).2.2.2.1)
    · rw [ev_call (evL_comp (h := fun f => .str f.x) hv2 rfl fun f hf => at0 f)]
      exact c1
    · rw [ev_call (ev_call (evL_comp (h := fun f => strL f.qs) hv2 rfl fun f hf => at1 f) |>.trans ?_)]
      · exact c3
      · have : (fs.map fun f => f.qs).map strL = fs.map fun f => strL f.qs := by simp
        rw [this] at c2
        exact c2
  · -- the places
    have c1 := cpath_ok (K := KC) (m + 2) (d := .list (fs.map fun f => .str (P f.ns))) (xs := fs.map fun f => P f.ns) (by simp [itemsD_list]) (hc _) (fun x hx => by
      refine e1_2 (List.mem_map.mp hx) fun f hf ze65 => ?_; subst ze65
      exact way_P (hfs f hf).nm (hfs f hf).len)
    have c2 := shared_ok (K := KC) (m + 2) (ls := fs.map fun f => f.ns) (hc _) (fun l hl => by
      refine e1_2 (List.mem_map.mp hl) fun f hf ze66 => ?_; subst ze66
      exact ⟨by have := (hfs f hf).len; unfold WN; lia, fun x hx => ((hfs f hf).nm x hx).2.2.2.1⟩)
    have hm : (fs.map fun f => P f.ns).map comps = fs.map fun f => f.ns := by
      rw [List.map_map]
      exact List.map_congr_left fun f hf => comps_P (hfs f hf).nm
    rw [hm] at c1
    have hN : (∀ n ∈ lcpAll (fs.map fun f => f.ns), Nm n) ∧ (lcpAll (fs.map fun f => f.ns)).length ≤ 1000 := by
      refine e2_1 (List.exists_cons_of_ne_nil hne) fun f r' hfr => ?_
      have hf : f ∈ fs := by rw [hfr]; simp
      have := lcpAll_pre (ls := fs.map fun f => f.ns) f.ns (List.mem_map.mpr ⟨f, hf, rfl⟩)
      exact ⟨fun n hn => (hfs f hf).nm n (this.subset hn), by have := this.length_le; have := (hfs f hf).len; lia⟩
    have c3 := path_ok (K := KC) (m + 2) hN.1 hN.2
    refine ne_of (d := .str (P (lcpAll (fs.map fun f => f.ns)))) ?_ ?_ (by (first | rw [shal_none] | rw [shal_bool] | rw [shal_int] | rw [shal_str] | rw [shal_list] | rw [shal_tuple]); exact P_ok fun n hn => (hN.1 n hn).2.2.2.1)
    · rw [ev_call (evL_comp (h := fun f : Fd => .str (P f.ns)) hv1 rfl fun f hf => ?_)]
      · exact c1
      · have : upd ρ "r" (.val (rD (fR f))) "r" = .val (rD (fR f)) := by simp [upd]
        simp only [evX_var, evX_int, evX_idx, v, this]
        exact place_at (a := fR f) (hfs f hf).len
    · rw [ev_call (ev_call (evL_comp (h := fun f => strL f.ns) hv2 rfl fun f hf => at2 f) |>.trans ?_)]
      · exact c3
      · have : (fs.map fun f => f.ns).map strL = fs.map fun f => strL f.ns := by simp
        rw [this] at c2
        exact c2
end
end Mine
end

section
open PySem PySem.W PyProof.Rows
namespace Mine
set_option tactic.hygienic false

noncomputable def toldD (w : Nat → Int) (a b : Rw) : PyData := .tuple [.str (P (lcp a.2 b.2)), .list (((List.range 5).map fun k => kv ((rul w).take k) a b).map fun z => .str (wayS z))]
theorem shal_told {a b : Rw} (ha : ∀ n ∈ a.2, Nm n) {w : Nat → Int} (hw : ∀ i, w i = 1 ∨ w i = -1) : shal 4 (toldD w a b) = true := by
  unfold toldD
  have h1 : PyData.strOk (P (lcp a.2 b.2)) = true := P_ok fun n hn => (ha n ((lcp_left _ _).subset hn)).2.2.2.1
  simp only [shal_str, shal_list, shal_tuple, List.all_cons, List.all_nil, Bool.and_true, h1, Bool.true_and]
  rw [List.all_eq_true]
  intro y hy
  refine e1_2 (List.mem_map.mp hy) fun z hz ze67 => ?_; subst ze67
  refine e1_2 (List.mem_map.mp hz) fun k zz ze68 => ?_; subst ze68
  (first | rw [shal_none] | rw [shal_bool] | rw [shal_int] | rw [shal_str] | rw [shal_list] | rw [shal_tuple])
  exact way_shal (kv_small hw a b _ fun x hx => List.mem_of_mem_take hx)

theorem ev_and {C : String → List PyData → Option PyData} {K : PyData → PyData → PyData → Option PyData} {ρ : Ro} {a b : X} (h1 : evX C K ρ a = some (.bool true)) (h2 : evX C K ρ b = some (.bool true)) : evX C K ρ (.bop true [a, b]) = some (.bool true) := by
  (first | rw [evX_nil] | rw [evX_var] | rw [evX_int] | rw [evX_str] | rw [evX_bool] | rw [evX_bin] | rw [evX_neg] | rw [evX_cmp] | rw [evX_bop] | rw [evX_not] | rw [evX_ite] | rw [evX_list] | rw [evX_tup] | rw [evX_idx] | rw [evX_slc] | rw [evX_comp] | rw [evX_compR] | rw [evX_call] | rw [evX_bi] | rw [evX_meth] | rw [evX_isBytes] | rw [evX_mapF] | rw [evX_cmpK] | rw [evX_cmpV] | rw [evX_keysOf] | rw [evX_ownLast] | rw [evX_ownLen] | rw [evX_ownNotIn] | rw [evX_ownSorted])
  simp only [evB_one, evB_cons, h1, h2, truthyD_bool, if_true]

section
variable {fs : List Fd} (hfs : ∀ f ∈ fs, FdOk f) (hlen : fs.length ≤ 5) {w : Nat → Int} (hw : ∀ i, w i = 1 ∨ w i = -1)
include hfs hlen hw
theorem la_loop (m : Nat) {ρ : Ro} (e1 : ρ "table" = .val (tabD fs)) (e2 : ρ "found" = .val (fouD fs)) (e3 : ρ "rules" = .val (rulD w)) :
    ∃ ρ', exS (callX tabOf KC (m + 3)) KC (.forR "j" (.int 0) (.bi "len" [v "table"]) laOut) ρ = some (.next, ρ') ∧ ρ' "table" = .val (tabD fs) ∧ ρ' "found" = .val (fouD fs) ∧ ρ' "rules" = .val (rulD w) := by
  obtain ⟨ρ', g1, g2⟩ := for_keep (x := "j") (b := fun ρ => exSs (callX tabOf KC (m + 3)) KC laOut ρ) (fun ρ => ρ "table" = .val (tabD fs) ∧ ρ "found" = .val (fouD fs) ∧ ρ "rules" = .val (rulD w)) (ds := (List.range fs.length).map fun i : Nat => .int (i : Nat)) (ρ := ρ) (fun d hd ρ hρ => by
    refine e1_2 (List.mem_map.mp hd) fun j hj ze69 => ?_; subst ze69
    have hj := List.mem_range.mp hj
    obtain ⟨ρ₁, k1, k2⟩ := for_keep (x := "i") (b := fun ρ => exSs (callX tabOf KC (m + 3)) KC laIn ρ) (fun ρ => (ρ "table" = .val (tabD fs) ∧ ρ "found" = .val (fouD fs) ∧ ρ "rules" = .val (rulD w)) ∧ ρ "j" = .val (.int (j : Nat))) (ds := (List.range j).map fun i : Nat => .int (i : Nat)) (ρ := upd ρ "j" (.val (.int (j : Nat)))) (fun d hd ρ hρ => by
      refine e1_2 (List.mem_map.mp hd) fun i hi ze70 => ?_; subst ze70
      have hi := List.mem_range.mp hi
      refine e0_2 (hρ) fun zt71 h4 => ?_
      refine e0_3 (zt71) fun h1 h2 h3 => ?_
      refine ⟨upd ρ "i" (.val (.int (i : Nat))), ?_, ⟨by simp [upd, h1], by simp [upd, h2], by simp [upd, h3]⟩, by simp [upd, h4]⟩
      have f1 : upd ρ "i" (.val (.int (i : Nat))) "table" = .val (tabD fs) := by simp [upd, h1]
      have f2 : upd ρ "i" (.val (.int (i : Nat))) "found" = .val (fouD fs) := by simp [upd, h2]
      have f3 : upd ρ "i" (.val (.int (i : Nat))) "rules" = .val (rulD w) := by simp [upd, h3]
      have f4 : upd ρ "i" (.val (.int (i : Nat))) "j" = .val (.int (j : Nat)) := by simp [upd, h4]
      have f5 : upd ρ "i" (.val (.int (i : Nat))) "i" = .val (.int (i : Nat)) := by simp [upd]
      have hil : i < fs.length := by lia
      have t1 : ∀ {k : Nat} (hk : k < fs.length), idxD (tabD fs) (.int (k : Nat)) = some (rD (fR fs[k])) := fun {k} hk => by simp [tabD, idxD_list, hk]
      have t2 : ∀ {k : Nat} (hk : k < fs.length), idxD (fouD fs) (.int (k : Nat)) = some (drD (fs[k]).n (fs[k]).x (fs[k]).qs (fs[k]).ns) := fun {k} hk => by simp [fouD, idxD_list, hk, fD]
      have o1 := hfs _ (List.getElem_mem hil)
      have o2 := hfs _ (List.getElem_mem hj)
      have c1 := told_ok (m + 1) (a := fR fs[i]) (b := fR fs[j]) o1.nm o2.nm o1.len o2.len hw
      have c2 := due_ok (m + 1) (K := KC) (a := fR fs[i]) (b := fR fs[j]) o1.nm o2.nm o1.len o2.len hw (fs[i]).x (fs[j]).x (fs[i]).qs (fs[j]).qs
      have v1 : evX (callX tabOf KC (m + 3)) KC (upd ρ "i" (.val (.int (i : Nat)))) (.call "_law_told" [.idx (v "table") (v "i"), .idx (v "table") (v "j"), v "rules"]) = some (toldD w (fR fs[i]) (fR fs[j])) := by
        simp only [evX_var, evX_idx, evX_call, evXs_nil, evXs_cons, v, f1, f3, f4, f5, t1 hil, t1 hj]
        exact c1
      have v2 : evX (callX tabOf KC (m + 3)) KC (upd ρ "i" (.val (.int (i : Nat)))) (.call "_law_due" [.idx (v "found") (v "i"), .idx (v "found") (v "j"), v "rules"]) = some (toldD w (fR fs[i]) (fR fs[j])) := by
        simp only [evX_var, evX_idx, evX_call, evXs_nil, evXs_cons, v, f2, f3, f4, f5, t2 hil, t2 hj]
        exact c2
      unfold laIn
      exact exs_one (ne_of v1 v2 (shal_told o1.nm hw))) ⟨⟨by simp [upd, hρ.1], by simp [upd, hρ.2.1], by simp [upd, hρ.2.2]⟩, by simp [upd]⟩
    refine ⟨ρ₁, ?_, k2.1⟩
    have f1 : upd ρ "j" (.val (.int (j : Nat))) "j" = .val (.int (j : Nat)) := by simp [upd]
    have r0 : rangeD (.int 0) (.int (j : Nat)) = some ((List.range j).map fun i : Nat => .int (i : Nat)) := by
      rw [range0 (by lia) (by lia), Int.toNat_natCast]
    have : exS (callX tabOf KC (m + 3)) KC (.forR "i" (.int 0) (v "j") laIn) (upd ρ "j" (.val (.int (j : Nat)))) = some (.next, ρ₁) := by
      rw [ex_forR (l := .int 0) (h := .int (j : Nat)) (by simp [evX_int]) (by simp only [evX_var, v, f1]) r0]
      exact k1
    exact exs_one this) ⟨e1, e2, e3⟩
  refine ⟨ρ', ?_, g2⟩
  have hl : biD "len" [tabD fs] = some (.int (fs.length : Nat)) := by simp [biD_lenL, tabD]
  have r0 : rangeD (.int 0) (.int (fs.length : Nat)) = some ((List.range fs.length).map fun i : Nat => .int (i : Nat)) := by
    rw [range0 (by lia) (by lia), Int.toNat_natCast]
  rw [ex_forR (l := .int 0) (h := .int (fs.length : Nat)) (by simp [evX_int]) (by simp only [evX_var, evX_bi, evXs_nil, evXs_cons, v, e1, hl]) r0]
  exact g1

theorem la_B (m : Nat) {ρ : Ro} (e1 : ρ "table" = .val (tabD fs)) (e2 : ρ "found" = .val (fouD fs)) (e3 : ρ "rules" = .val (rulD w)) : Runs (callX tabOf KC (m + 3)) KC laB ρ (.bool true) := by
  refine e1_4 (la_loop hfs hlen hw m e1 e2 e3) fun ρ₁ g1 h1 h2 h3 => ?_
  refine Runs.next g1 ?_
  have hrow : ∀ a ∈ fs.map fR, (∀ n ∈ a.2, Nm n) ∧ a.2.length ≤ 3 := fun a ha => by
    refine e1_2 (List.mem_map.mp ha) fun f hf ze72 => ?_; subst ze72
    exact ⟨(hfs f hf).nm, (hfs f hf).len⟩
  obtain ⟨tour, p1, p2, p3⟩ := sortedL_ok (m + 2) hw (rows := fs.map fR) (fun a ha => (hrow a ha).2) (by simp; lia)
  have htour : ∀ a ∈ tour, (∀ n ∈ a.2, Nm n) ∧ a.2.length ≤ 3 := fun a ha => hrow a (p1.mem_iff.mp ha)
  have htl : tour.length ≤ 5 := by rw [p1.length_eq]; simpa using hlen
  have hs : evX (callX tabOf KC (m + 3)) KC ρ₁ (.call "_law_sorted" [v "table", v "rules"]) = some (.list (tour.map rD)) := by
    simp only [evX_var, evX_call, evXs_nil, evXs_cons, v, h1, h3]
    have : tabD fs = .list ((fs.map fR).map rD) := by simp [tabD]
    rw [this]
    exact p3
  have ht : evX (callX tabOf KC (m + 3)) KC ρ₁ (.comp (.idx (v "r") (.int 4)) "r" (.call "_law_sorted" [v "table", v "rules"]) .nil) = some (.list (tour.map fun a => .str (P a.2))) :=
    evL_comp hs rfl fun a ha => by
      have : upd ρ₁ "r" (.val (rD a)) "r" = .val (rD a) := by simp [upd]
      simp only [evX_var, evX_int, evX_idx, v, this]
      exact place_at (htour a ha).2
  have hT : (.list (tour.map fun a => .str (P a.2)) : PyData) = strL (tour.map fun a => P a.2) := by simp [strL]
  rw [hT] at ht
  refine Runs.assignC ht (Runs.ret ?_)
  generalize hρ : upd ρ₁ "tour" (.val (strL (tour.map fun a => P a.2))) = ρ₂
  have f1 : ρ₂ "tour" = .val (strL (tour.map fun a => P a.2)) := by rw [← hρ]; simp [upd]
  have f2 : ρ₂ "found" = .val (fouD fs) := by rw [← hρ]; simp [upd, h2]
  have hv : evX (callX tabOf KC (m + 3)) KC ρ₂ (v "tour") = some (strL (tour.map fun a => P a.2)) := by simp only [evX_var, v, f1]
  have a1 : evX (callX tabOf KC (m + 3)) KC ρ₂ (.call "_law_ends_tell" [v "tour"]) = some (.bool true) := by
    rw [ev_call hv]
    exact ends_ok (m + 1) hw htour (by lia) p2
  have hL : tour.map (fun a => P a.2) = (tour.map fun a => a.2).map P := by simp
  have a2 : evX (callX tabOf KC (m + 3)) KC ρ₂ (.call "_law_entered" [v "tour"]) = some (strL (sortS ((ent [] (tour.map fun a => a.2)).map P))) := by
    rw [ev_call hv, hL]
    exact entered_ok m (fun l hl => by
      refine e1_2 (List.mem_map.mp hl) fun a ha ze73 => ?_; subst ze73
      exact htour a ha) (by simpa using htl)
  have a3 : evX (callX tabOf KC (m + 3)) KC ρ₂ (.call "_law_fronts" [.comp (.idx (v "f") (.int 2)) "f" (v "found") .nil]) = some (strL (sortS ((frs [] (fs.map fun f => f.ns)).map P))) := by
    have hv2 : evX (callX tabOf KC (m + 3)) KC ρ₂ (v "found") = some (fouD fs) := by simp only [evX_var, v, f2]
    rw [ev_call (evL_comp (h := fun f => strL f.ns) hv2 rfl fun f hf => by
      have : upd ρ₂ "f" (.val (fD f)) "f" = .val (fD f) := by simp [upd]
      simp only [evX_var, evX_int, evX_idx, v, this]; rfl)]
    have c := fronts_ok (K := KC) (m + 1) (ls := fs.map fun f => f.ns) (fun l hl => by
      refine e1_2 (List.mem_map.mp hl) fun f hf ze74 => ?_; subst ze74
      exact ⟨(hfs f hf).nm, (hfs f hf).len⟩) (by simpa using hlen)
    have : (fs.map fun f => f.ns).map strL = fs.map fun f => strL f.ns := by simp
    rw [this] at c
    exact c
  have hmem : ∀ ns, ns ∈ (fs.map fun f => f.ns) ↔ ns ∈ tour.map fun a => a.2 := fun ns => by
    have := (p1.map fun a => a.2).mem_iff (a := ns)
    rw [this]; simp [fR]
  have heq := sortL_perm ((ent_frs hw htour p2 hmem).map P)
  rw [heq] at a2
  have hok : shal 4 (strL (sortS ((frs [] (fs.map fun f => f.ns)).map P))) = true := shal_strL fun x hx => by
    have := (sortS_self _).mem_iff.mp hx
    refine e1_2 (List.mem_map.mp this) fun c hc ze75 => ?_; subst ze75
    rw [frs_mem] at hc
    rcases hc with hc | ⟨_, ns, hns, hp⟩
    · cases hc
    · refine e1_2 (List.mem_map.mp hns) fun f hf ze76 => ?_; subst ze76
      exact P_ok fun n hn => ((hfs f hf).nm n (hp.subset hn)).2.2.2.1
  have a4 : evX (callX tabOf KC (m + 3)) KC ρ₂ (.cmp .eq (.call "_law_entered" [v "tour"]) (.call "_law_fronts" [.comp (.idx (v "f") (.int 2)) "f" (v "found") .nil])) = some (.bool true) := by
    (first | rw [evX_nil] | rw [evX_var] | rw [evX_int] | rw [evX_str] | rw [evX_bool] | rw [evX_bin] | rw [evX_neg] | rw [evX_cmp] | rw [evX_bop] | rw [evX_not] | rw [evX_ite] | rw [evX_list] | rw [evX_tup] | rw [evX_idx] | rw [evX_slc] | rw [evX_comp] | rw [evX_compR] | rw [evX_call] | rw [evX_bi] | rw [evX_meth] | rw [evX_isBytes] | rw [evX_mapF] | rw [evX_cmpK] | rw [evX_cmpV] | rw [evX_keysOf] | rw [evX_ownLast] | rw [evX_ownLen] | rw [evX_ownNotIn] | rw [evX_ownSorted])
    simp only [a2, a3, cmpD_eq, hok, Bool.and_self, if_true, eqv_self 4 _ hok]
  exact ev_and a1 a4
end

set_option tactic.hygienic true in
theorem law_ok (m : Nat) (ns : List Int) : callX tabOf KC (m + 4) "law" [.list (ns.map .int)] = some (.bool true) := by
  obtain ⟨F, hF⟩ : ∃ F : Int → Fd, ∀ n, FdOk (F n) ∧ callX tabOf KC (m + 3) "_law_drawn" [.int n] = some (fD (F n)) := by
    refine Classical.axiomOfChoice (r := fun n f => FdOk f ∧ callX tabOf KC (m + 3) "_law_drawn" [.int n] = some (fD f)) fun n => ?_
    obtain ⟨x, qs, ms, h1, h2⟩ := drawn_ok (K := KC) m n
    exact ⟨⟨n, x, qs, ms⟩, h1, h2⟩
  obtain ⟨cs, hcs, hne, hlen⟩ : ∃ cs : List Int, (if ns = [] then [17, 11, 1] else ns.take 5) = cs ∧ cs ≠ [] ∧ cs.length ≤ 5 := by
    refine ⟨_, rfl, ?_, ?_⟩
    · split
      · simp
      · rename_i h
        simp [h]
    · split
      · simp
      · simp; lia
  refine call_of (by decide) (show tabOf "law" = some fLaw from rfl) rfl ?_
  generalize hρ : upd (fun _ => AV.no) "script" (.val (.list (ns.map .int))) = ρ
  have e1 : ρ "script" = .val (.list (ns.map .int)) := by rw [← hρ]; simp [upd]
  refine Runs.assign (y := .list (cs.map .int)) ?_ ?_
  · have s1 : slcD (.list (ns.map .int)) .none (.int 5) = some (.list ((ns.map .int).take 5)) := s_take _ 5
    rw [← hcs]
    by_cases e : ns = []
    · subst e
      simp only [evX_nil, evX_var, evX_int, evX_bop, evX_list, evX_slc, evB_one, evB_cons, evXs_nil, evXs_cons, v, e1, s1, truthyD_list]
      rfl
    · have hl : (((ns.map PyData.int).take 5).length != 0) = true := by simp [e]
      rw [if_neg e]
      simp only [evX_nil, evX_var, evX_int, evX_bop, evX_list, evX_slc, evB_one, evB_cons, evXs_nil, evXs_cons, v, e1, s1, truthyD_list, hl]
      simp
  generalize hρ₁ : upd ρ "cells" (.val (.list (cs.map .int))) = ρ₁
  have f1 : ρ₁ "script" = .val (.list (ns.map .int)) := by rw [← hρ₁]; simp [upd, e1]
  have f2 : ρ₁ "cells" = .val (.list (cs.map .int)) := by rw [← hρ₁]; simp [upd]
  refine Runs.assignC (y := fouD (cs.map F)) ?_ ?_
  · have hv : evX (callX tabOf KC (m + 3)) KC ρ₁ (v "cells") = some (.list (cs.map .int)) := by simp only [evX_var, v, f2]
    have : fouD (cs.map F) = .list (cs.map fun n => fD (F n)) := by simp [fouD]
    rw [this]
    refine evL_comp hv rfl fun n hn => ?_
    have hx : evX (callX tabOf KC (m + 3)) KC (upd ρ₁ "x" (.val (.int n))) (v "x") = some (.int n) := by simp [evX_var, v, upd]
    rw [ev_call hx]
    exact (hF n).2
  generalize hρ₂ : upd ρ₁ "found" (.val (fouD (cs.map F))) = ρ₂
  have g1 : ρ₂ "script" = .val (.list (ns.map .int)) := by rw [← hρ₂]; simp [upd, f1]
  have g2 : ρ₂ "found" = .val (fouD (cs.map F)) := by rw [← hρ₂]; simp [upd]
  refine Runs.assignC (y := rulD (wOf ns.sum)) (rules_ok g1) ?_
  generalize hρ₃ : upd ρ₂ "rules" (.val (rulD (wOf ns.sum))) = ρ₃
  have h2 : ρ₃ "found" = .val (fouD (cs.map F)) := by rw [← hρ₃]; simp [upd, g2]
  have h3 : ρ₃ "rules" = .val (rulD (wOf ns.sum)) := by rw [← hρ₃]; simp [upd]
  have hfs : ∀ f ∈ cs.map F, FdOk f := fun f hf => by
    refine e1_2 (List.mem_map.mp hf) fun n zz ze77 => ?_; subst ze77
    exact (hF n).1
  have hfne : cs.map F ≠ [] := by simpa using hne
  have hfl : (cs.map F).length ≤ 5 := by simpa using hlen
  refine Runs.assignC (y := tabD (cs.map F)) ?_ ?_
  · have hv : evX (callX tabOf KC (m + 3)) KC ρ₃ (v "found") = some (fouD (cs.map F)) := by simp only [evX_var, v, h2]
    refine evL_comp hv rfl fun f hf => ?_
    have hok := hfs f hf
    have hx : upd ρ₃ "f" (.val (fD f)) "f" = .val (fD f) := by simp [upd]
    have i0 : idxD (fD f) (.int 0) = some (.str f.x) := rfl
    have i3 : idxD (fD f) (.int 3) = some (.int f.n) := rfl
    refine e1_2 (Dr.root hok) fun r r1 r2 => ?_
    have hn := norm_ok (K := KC) m (x := f.x) (r := r) ⟨r1, r2, Dr.sok hok, by have := Dr.len hok; lia⟩ (by rw [Dr.cmp hok]; exact Dr.nm hok)
    rw [Dr.cmp hok, ← Dr.pos hok] at hn
    have hr := row_ok (K := KC) m (n := f.n) hok.nm hok.len
    simp only [evX_var, evX_int, evX_idx, evX_call, evXs_nil, evXs_cons, v, hx, i0, i3, hn]
    exact hr
  generalize hρ₄ : upd ρ₃ "table" (.val (tabD (cs.map F))) = ρ₄
  have k1 : ρ₄ "table" = .val (tabD (cs.map F)) := by rw [← hρ₄]; simp [upd]
  have k2 : ρ₄ "found" = .val (fouD (cs.map F)) := by rw [← hρ₄]; simp [upd, h2]
  have k3 : ρ₄ "rules" = .val (rulD (wOf ns.sum)) := by rw [← hρ₄]; simp [upd, h3]
  exact la_A hfs hfne hfl m k1 k2 (la_B hfs hfl (wOf_ok ns.sum) m k1 k2 k3)
end Mine
end

section
open PySem PySem.W PyProof.Rows
set_option maxRecDepth 100000
set_option maxHeartbeats 0
namespace Mine
/-! Names kept back, so that the head below lays no second copy of the constants that it makes: each such copy brings a long proof that it is the same, and the compiled file has a lid. -/
noncomputable def top.tw16541100652227675460 : Unit := ()
noncomputable def top.tw12082346257537739560 : Unit := ()
noncomputable def top.tw18064794426631996164 : Unit := ()
noncomputable def top.tw17040452866332815398 : Unit := ()
noncomputable def top.tw16050417384331286980 : Unit := ()
noncomputable def top.tw2228507204995602602 : Unit := ()
noncomputable def top.tw897822540260682436 : Unit := ()
noncomputable def top.tw4909286810050342244 : Unit := ()
noncomputable def top.tw17858013995227540050 : Unit := ()
noncomputable def top.tw4377309737653057093 : Unit := ()
noncomputable def top.tw1527239484044843206 : Unit := ()
noncomputable def top.tw8321918168302905379 : Unit := ()
noncomputable def top.tw8538268897159353584 : Unit := ()
noncomputable def top.tw16795567611416646642 : Unit := ()
noncomputable def top.tw18186074749648716422 : Unit := ()
noncomputable def top.tw13854487755817843489 : Unit := ()
noncomputable def top.tw5088376156974544275 : Unit := ()
noncomputable def top.tw1886144042066472794 : Unit := ()
noncomputable def top.tw10006222313960134694 : Unit := ()
noncomputable def top.tw16123964013534891561 : Unit := ()
noncomputable def top.tw3195968871104189447 : Unit := ()
noncomputable def top.tw14372152842798730730 : Unit := ()
noncomputable def top.tw3730354652608582461 : Unit := ()
noncomputable def top.tw11546936639936008217 : Unit := ()
noncomputable def top.tw6919701780365589675 : Unit := ()
noncomputable def top.tw13928562000808390012 : Unit := ()
noncomputable def top.tw8184561461823581802 : Unit := ()
noncomputable def top.tw3969286963782609292 : Unit := ()
noncomputable def top.tw10996937224433265937 : Unit := ()
noncomputable def top.tw6898770573198911631 : Unit := ()
noncomputable def top.tw4213018616267185653 : Unit := ()
noncomputable def top.tw8507776931139520737 : Unit := ()
noncomputable def top.tw1869187583165140508 : Unit := ()
noncomputable def top.tw2985252069258134486 : Unit := ()
noncomputable def top.tw9614876229902214918 : Unit := ()
noncomputable def top.tw4299629679881509495 : Unit := ()
noncomputable def top.tw14282377253939248939 : Unit := ()
noncomputable def top.tw12094960947251128927 : Unit := ()
noncomputable def top.tw4159251561096739476 : Unit := ()
noncomputable def top.tw9059832203979395877 : Unit := ()
noncomputable def top.tw705360758644809490 : Unit := ()
noncomputable def top.tw17555251805378815213 : Unit := ()
noncomputable def top.tw17315540178315561739 : Unit := ()
noncomputable def top.tw728428047077509346 : Unit := ()
noncomputable def top.tw575894324575664597 : Unit := ()
noncomputable def top.tw9382581127745807760 : Unit := ()
noncomputable def top.tw8363718466572441477 : Unit := ()
noncomputable def top.tw2924597203103170677 : Unit := ()
noncomputable def top.tw13370750898655102155 : Unit := ()
noncomputable def top.tw1275901062530889299 : Unit := ()
noncomputable def top.tw2561016716579263177 : Unit := ()
noncomputable def top.tw1676862907878916244 : Unit := ()
noncomputable def top.tw2514443458684651071 : Unit := ()
noncomputable def top.tw8735323631387419056 : Unit := ()
noncomputable def top.tw13272337422414781067 : Unit := ()
noncomputable def top.tw5969682004907312646 : Unit := ()
noncomputable def top.tw13091174067606910046 : Unit := ()
noncomputable def top.tw9378254376102152143 : Unit := ()
noncomputable def top.tw4205137553216949640 : Unit := ()
noncomputable def top.tw8640399195822439974 : Unit := ()
noncomputable def top.tw16900427199656544559 : Unit := ()
noncomputable def top.tw6756868429301003459 : Unit := ()
noncomputable def top.tw2731995056826638727 : Unit := ()
noncomputable def top.tw15569959144833144457 : Unit := ()
noncomputable def top.tw11960245374511038805 : Unit := ()
noncomputable def top.tw14349089067433371257 : Unit := ()
noncomputable def top.tw2462062305354472974 : Unit := ()
noncomputable def top.tw6491118196486620199 : Unit := ()
noncomputable def top.tw2822501910515967889 : Unit := ()
noncomputable def top.tw12385144161495827662 : Unit := ()
noncomputable def top.tw13359135706311490777 : Unit := ()
noncomputable def top.tw14861896470697024400 : Unit := ()
noncomputable def top.tw13264354339760550358 : Unit := ()
noncomputable def top.tw814325599930780420 : Unit := ()
noncomputable def top.tw2812155379371279736 : Unit := ()
noncomputable def top.tw15177526630643400193 : Unit := ()
noncomputable def top.tw11423202765487971197 : Unit := ()
noncomputable def top.tw14597223018079223185 : Unit := ()
noncomputable def top.tw8689318265317240412 : Unit := ()
noncomputable def top.tw517144808224063464 : Unit := ()

set_option Elab.async true in
theorem top : PySem.Challenge.rw_ik0006_01.Holds := by
  w_on; o_law; k_head; (case hw => w_witness2)
  intro w s₀ s₁ mg mb G Y fa o pm cd doc dV kV ho hd' hcd hD hmg hg args vals as hpre hlay hrd hwl hlo
  have X := kIn_of Y
  refine Ground.open G ?_
  intro T B D TE TW
  wrow_args hpre hlay hrd hwl hlo
  rename_i ns _ _ _ _ _ _ _ a vs _ hL ra w1 r0 hI hr hlen _
  have hC := core (prog := PySem.Challenge.rw_ik0006_01.row.prog) (w := w) X T.g T.b T.nolimit T.builtins (by kernel_rfl)
  obtain ⟨a', o', fd', h1, h2, h3, h4⟩ := hC "law" _ _ (law_ok 8 ns)
  have e : a' = fa := by
    have := h1.symm.trans hmg
    cases this; rfl
  subst e
  refine h4 callerA s₁ _ [] _ _ ⟨rfl, by decide, by decide⟩ (Grow.refl _) (fun a ha => (nomatch ha)) ?_ ?_
  · cases w1 with
    | list ga wa =>
      refine .cons (.list (n := 0) ga (by simp) (by rw [List.length_map, sizeLine_eq]; omega) (rep_ints wa)) .nil
  · intro v h' tk g' r
    cases r with
    | bool b =>
      refine GoodW.toG ⟨.inl ⟨_, _, [], rfl, fun cls => rfl, .bool true, ?_, unshared_nil⟩, g', rfl, hg⟩
      wrow_post
end Mine
end

theorem PySem.Challenge.cw_ik0006_01_holds : PySem.Challenge.rw_ik0006_01.Holds := by
  exact Mine.top
