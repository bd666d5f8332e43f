import PyProof.Rows.All
import Wide.All
import OpenK.AllK
import Wide.FinOn
import KE.KNest
import Lean
import PySem.Challenge.RW_pg0157_01
set_option Elab.async false
set_option bootstrap.genMatcherCode false
set_option genSizeOf false
set_option genSizeOfSpec false
set_option backward.eqns.nonrecursive false

/-! part Ab -/
section
set_option maxRecDepth 10000
set_option autoImplicit false
namespace Mine
open PySem

/-! Abstract values and the abstract interpreter. -/

inductive AV where
  | none | bool (b : Bool) | int (i : Int) | str (s : Str)
  | tup (l : List AV) | list (l : List AV) | dict (l : List (Str × AV))
  | rng (n : Int) | items (l : List (Str × AV)) | values (l : List (Str × AV))
  | inst (l : AV)

structure AR where
  v : AV
  own : Bool

inductive Var where
  | frz (v : AV) | own (v : AV) | io (v : AV)

structure R where
  vars : List (Str × Var)
  comp : List (Str × AV)

inductive Fl where
  | next | brk | cont | ret (v : AV)

inductive K where
  | comp | var | glob

structure CX where
  sc : Scope
  cs : Option Scope

structure Def where
  params : List Str
  body : List Stmt
  sc : Scope

structure Rec where
  ev : CX → R → PySem.Expr → Option AR
  ts : CX → R → PySem.Expr → Option Bool
  ex : Scope → R → List Stmt → Option (Fl × R)
  call : Str → List Var → Option (AV × Option AV)

/-! tools: what an option's value tells -/

theorem none_ne {α : Type} {c : α} {P : Prop} (e : (none : Option α) = some c) : P := by cases e
theorem bnd {α β : Type} {o : Option α} {f : α → Option β} {b : β} {P : Prop} (e : o.bind f = some b) (k : ∀ a, o = some a → f a = some b → P) : P := by
  induction o using Option.casesOn with
  | none => exact none_ne e
  | some a => exact k a rfl e
theorem mpd {α β : Type} {o : Option α} {f : α → β} {b : β} {P : Prop} (e : o.map f = some b) (k : ∀ a, o = some a → f a = b → P) : P := by
  induction o using Option.casesOn with
  | none => exact none_ne e
  | some a => exact k a rfl (Option.some.inj e)
theorem elm {α β : Type} {o : Option α} {n : Option β} {f : α → Option β} {b : β} {P : Prop} (e : o.elim n f = some b) (k0 : o = none → n = some b → P) (k : ∀ a, o = some a → f a = some b → P) : P := by
  induction o using Option.casesOn with
  | none => exact k0 rfl e
  | some a => exact k a rfl e
theorem ifs {β : Type} {c : Prop} [Decidable c] {o : Option β} {b : β} {P : Prop} (e : (if c then o else none) = some b) (k : c → o = some b → P) : P := by
  by_cases h : c
  · rw [if_pos h] at e; exact k h e
  · rw [if_neg h] at e; exact none_ne e
theorem ifb {β : Type} {c : Prop} [Decidable c] {o o' : Option β} {b : β} {P : Prop} (e : (if c then o else o') = some b) (k1 : c → o = some b → P) (k2 : ¬ c → o' = some b → P) : P := by
  by_cases h : c
  · rw [if_pos h] at e; exact k1 h e
  · rw [if_neg h] at e; exact k2 h e
theorem bndI {α β : Type} {o : Option α} {f : α → Option β} {a : α} {b : Option β} (h : o = some a) (k : f a = b) : o.bind f = b := by rw [h]; exact k
theorem mpdI {α β : Type} {o : Option α} {f : α → β} {a : α} (h : o = some a) : o.map f = some (f a) := by rw [h]; rfl
theorem ifsI {β : Type} {c : Prop} [Decidable c] {o : Option β} {b : Option β} (h : c) (k : o = b) : (if c then o else none) = b := by rw [if_pos h]; exact k
theorem eif {β : Type} {c : Prop} [Decidable c] {o o' b : Option β} (h : ¬ c) (k : o' = b) : (if c then o else o') = b := by rw [if_neg h]; exact k
theorem tif {β : Type} {c : Prop} [Decidable c] {o o' b : Option β} (h : c) (k : o = b) : (if c then o else o') = b := by rw [if_pos h]; exact k
theorem noneI {α β : Type} {o : Option α} {n b : Option β} {f : α → Option β} (h : o = none) (k : n = b) : o.elim n f = b := by rw [h]; exact k
theorem someI {α β : Type} {o : Option α} {n b : Option β} {f : α → Option β} {a : α} (h : o = some a) (k : f a = b) : o.elim n f = b := by rw [h]; exact k

noncomputable def isK (k : K) (o : Option K) : Bool := o.elim false fun j => j.ctorIdx == k.ctorIdx
theorem isK_inv {k : K} {o : Option K} (h : isK k o = true) : o = some k := by
  induction o using Option.casesOn with
  | none => cases h
  | some j => cases k <;> cases j <;> first | rfl | cases h
theorem isK_of {k : K} {o : Option K} (h : o = some k) : isK k o = true := by subst h; cases k <;> rfl

/-! views -/
noncomputable def asInt (v : AV) : Option Int := by induction v using AV.casesOn with | int i => exact some i | _ => exact none
noncomputable def asStr (v : AV) : Option Str := by induction v using AV.casesOn with | str i => exact some i | _ => exact none
noncomputable def asBool (v : AV) : Option Bool := by induction v using AV.casesOn with | bool i => exact some i | _ => exact none
noncomputable def asList (v : AV) : Option (List AV) := by induction v using AV.casesOn with | list i => exact some i | _ => exact none
noncomputable def asTup (v : AV) : Option (List AV) := by induction v using AV.casesOn with | tup i => exact some i | _ => exact none
noncomputable def asDict (v : AV) : Option (List (Str × AV)) := by induction v using AV.casesOn with | dict i => exact some i | _ => exact none
noncomputable def asInst (v : AV) : Option AV := by induction v using AV.casesOn with | inst i => exact some i | _ => exact none
noncomputable def isNoneA (v : AV) : Bool := by induction v using AV.casesOn with | none => exact true | _ => exact false
theorem asInt_inv {v : AV} {i : Int} (h : asInt v = some i) : v = .int i := by induction v using AV.casesOn with | int j => exact congrArg _ (Option.some.inj h) | _ => exact none_ne h
theorem asStr_inv {v : AV} {i : Str} (h : asStr v = some i) : v = .str i := by induction v using AV.casesOn with | str j => exact congrArg _ (Option.some.inj h) | _ => exact none_ne h
theorem asBool_inv {v : AV} {i : Bool} (h : asBool v = some i) : v = .bool i := by induction v using AV.casesOn with | bool j => exact congrArg _ (Option.some.inj h) | _ => exact none_ne h
theorem asList_inv {v : AV} {i : List AV} (h : asList v = some i) : v = .list i := by induction v using AV.casesOn with | list j => exact congrArg _ (Option.some.inj h) | _ => exact none_ne h
theorem asTup_inv {v : AV} {i : List AV} (h : asTup v = some i) : v = .tup i := by induction v using AV.casesOn with | tup j => exact congrArg _ (Option.some.inj h) | _ => exact none_ne h
theorem asDict_inv {v : AV} {i : List (Str × AV)} (h : asDict v = some i) : v = .dict i := by induction v using AV.casesOn with | dict j => exact congrArg _ (Option.some.inj h) | _ => exact none_ne h
theorem asInst_inv {v i : AV} (h : asInst v = some i) : v = .inst i := by induction v using AV.casesOn with | inst j => exact congrArg _ (Option.some.inj h) | _ => exact none_ne h
theorem isNoneA_inv {v : AV} (h : isNoneA v = true) : v = .none := by cases v <;> first | rfl | cases h

noncomputable def clean (a : AR) : Option AV := a.own.casesOn (some a.v) none
theorem clean_inv {o : Option AR} {v : AV} (h : o.bind clean = some v) : o = some ⟨v, false⟩ := bnd h fun a h1 h2 => by
  obtain ⟨w, b⟩ := a
  induction b using Bool.casesOn with
  | false => exact h1.trans (congrArg (fun v => some (AR.mk v false)) (Option.some.inj h2))
  | true => exact none_ne h2
theorem clean_of {o : Option AR} {v : AV} (h : o = some ⟨v, false⟩) : o.bind clean = some v := by subst h; rfl
noncomputable def intV (a : AR) : Option Int := asInt a.v
theorem intV_inv {o : Option AR} {i : Int} (h : o.bind intV = some i) : ∃ b, o = some ⟨.int i, b⟩ := bnd h fun a h1 h2 => ⟨a.own, h1.trans (congrArg (fun v => some (AR.mk v a.own)) (asInt_inv h2))⟩
noncomputable def strV (a : AR) : Option Str := asStr a.v
theorem strV_inv {o : Option AR} {i : Str} (h : o.bind strV = some i) : ∃ b, o = some ⟨.str i, b⟩ := bnd h fun a h1 h2 => ⟨a.own, h1.trans (congrArg (fun v => some (AR.mk v a.own)) (asStr_inv h2))⟩

noncomputable def one {α : Type} (l : List α) : Option α := l.head?.bind fun a => if l.tail.isEmpty = true then some a else none
theorem one_inv {α : Type} {l : List α} {a : α} (h : one l = some a) : l = [a] := by
  induction l using List.casesOn with
  | nil => exact none_ne h
  | cons b t => induction t using List.casesOn with
    | nil => exact congrArg (fun x => [x]) (Option.some.inj h)
    | cons c t => exact none_ne h
noncomputable def two {α : Type} (l : List α) : Option (α × α) := l.head?.bind fun a => (one l.tail).map fun b => (a, b)
theorem two_inv {α : Type} {l : List α} {a b : α} (h : two l = some (a, b)) : l = [a, b] := by
  induction l using List.casesOn with
  | nil => exact none_ne h
  | cons c t => exact mpd h fun d h1 h2 => by cases h2; exact congrArg _ (one_inv (l := t) h1)
theorem isEmpty_inv {α : Type} {l : List α} (h : l.isEmpty = true) : l = [] := by induction l using List.casesOn with | nil => rfl | cons => cases h

/-- a call without keywords, an attribute, a name -/
noncomputable def callV (e : PySem.Expr) : Option (PySem.Expr × List PySem.Expr × Pos) := by induction e using PySem.Expr.casesOn with | Call f as ks p => exact (if ks.isEmpty = true then some (f, as, p) else none) | _ => exact none
noncomputable def attV (e : PySem.Expr) : Option (PySem.Expr × Str × Pos) := by induction e using PySem.Expr.casesOn with | Attribute o m p => exact some (o, m, p) | _ => exact none
noncomputable def nameV (e : PySem.Expr) : Option (Str × Pos) := by induction e using PySem.Expr.casesOn with | Name x p => exact some (x, p) | _ => exact none
theorem callV_inv {e f : PySem.Expr} {as : List PySem.Expr} {p : Pos} (h : callV e = some (f, as, p)) : e = .Call f as [] p := by
  induction e using PySem.Expr.casesOn with
  | Call f as ks p => exact ifs h fun h1 h2 => by cases h2; rw [isEmpty_inv h1]
  | _ => exact none_ne h
theorem attV_inv {e o : PySem.Expr} {m : Str} {p : Pos} (h : attV e = some (o, m, p)) : e = .Attribute o m p := by
  induction e using PySem.Expr.casesOn with
  | Attribute o m p => cases h; rfl
  | _ => exact none_ne h
theorem nameV_inv {e : PySem.Expr} {x : Str} {p : Pos} (h : nameV e = some (x, p)) : e = .Name x p := by
  induction e using PySem.Expr.casesOn with
  | Name x p => cases h; rfl
  | _ => exact none_ne h
noncomputable def nameOf (e : PySem.Expr) : Option Str := (nameV e).map (·.1)
theorem nameOf_some {e : PySem.Expr} {x : Str} (h : nameOf e = some x) : ∃ p, e = .Name x p := mpd h fun a h1 h2 => ⟨a.2, nameV_inv (h1.trans (congrArg (fun y => some (y, a.2)) h2))⟩

noncomputable def put {α : Type} : List (Str × α) → Str → α → List (Str × α)
  | [], x, v => [(x, v)]
  | (y, u) :: r, x, v => if y = x then (y, v) :: r else (y, u) :: put r x v

noncomputable def kind0 (n : NameKind) : Option K := by induction n using NameKind.casesOn with | «local» => exact some .var | cell => exact some .var | globalImplicit => exact some .glob | _ => exact none
noncomputable def kind1 (sc : Scope) (x : Str) (n : NameKind) : Option K := by induction n using NameKind.casesOn with | «local» => exact some .comp | free => exact (if sc.names.lookup x = some .cell then some .var else none) | globalImplicit => exact some .glob | _ => exact none
noncomputable def kind (cx : CX) (x : Str) : Option K := cx.cs.casesOn ((cx.sc.names.lookup x).bind kind0) fun cs => (cs.names.lookup x).bind (kind1 cx.sc x)

noncomputable def val (v : AV) : Option AR := some ⟨v, false⟩

/-- value of a variable of the frame -/
noncomputable def Var.read : Var → AR
  | .frz v => ⟨v, false⟩
  | .own v => ⟨v, true⟩
  | .io v => ⟨v, true⟩

noncomputable def globA (x : Str) : Option AV := if x = Str.ofString "ELLIPSIS_MARKER" then some (.str (Str.ofString "...")) else none

noncomputable def small (i : Int) : Bool := decide (0 ≤ i) && decide (i < 1000000)

noncomputable def i2 (f : Int → Int → Option AV) (a b : AV) : Option AV := (asInt a).bind fun x => (asInt b).bind fun y => f x y
noncomputable def addA (a b : AV) : Option AV := by
  induction a using AV.casesOn with
  | int x => exact (asInt b).map fun y => .int (x + y)
  | str s => exact (asStr b).bind fun t => if s.length + t.length ≤ 4096 then some (.str (s ++ t)) else none
  | list l => exact (asList b).bind fun m => if l.length + m.length ≤ 4096 then some (.list (l ++ m)) else none
  | _ => exact none
noncomputable def binA (op : Operator) (a b : AV) : Option AV := by
  induction op using Operator.casesOn with
  | Add => exact addA a b
  | Sub => exact i2 (fun x y => some (.int (x - y))) a b
  | Mult => exact i2 (fun x y => if small x = true ∧ small y = true then some (.int (x * y)) else none) a b
  | FloorDiv => exact i2 (fun x y => if small x = true ∧ small y = true ∧ y ≠ 0 then some (.int (Int.fdiv x y)) else none) a b
  | Mod => exact i2 (fun x y => if y ≠ 0 then some (.int (Int.fmod x y)) else none) a b
  | RShift => exact i2 (fun x y => if small x = true ∧ y = 1 then some (.int (x / 2)) else none) a b
  | _ => exact none

noncomputable def truthA (v : AV) : Option Bool := by
  induction v using AV.casesOn with
  | bool b => exact some b
  | list l => exact (if l.length ≤ 4096 then some (!l.isEmpty) else none)
  | str s => exact (if s.length ≤ 4096 then some (decide (s.length > 0)) else none)
  | _ => exact none

/-- order of two flat tuples -/
noncomputable def lt1 (a b : AV) (rest : Option Bool) : Option Bool := by
  induction a using AV.casesOn with
  | int i => exact (asInt b).bind fun j => if i = j then rest else some (decide (i < j))
  | str s => exact (asStr b).bind fun t => if s = t then rest else some (decide (s.cps.toList < t.cps.toList))
  | _ => exact none
noncomputable def ltFlat : List AV → List AV → Option Bool
  | [], l => if l.isEmpty = true then some false else none
  | a :: r, l => l.head?.bind fun b => lt1 a b (ltFlat r l.tail)

noncomputable def asInts : List AV → Option (List Int)
  | [] => some []
  | v :: r => (asInt v).bind fun i => (asInts r).map (i :: ·)

noncomputable def dictInts : List (Str × AV) → Option (List (Str × Int))
  | [] => some []
  | p :: r => (asInt p.2).bind fun i => (dictInts r).map ((p.1, i) :: ·)

/-- two dicts of ints, in any order -/
noncomputable def eqDict (a b : List (Str × Int)) : Bool := decide (a.length = b.length) && a.all fun p => b.lookup p.1 == some p.2

/-- == of two tuples whose items are ints or dicts of ints -/
noncomputable def eq1 (a b : AV) (rest : Option Bool) : Option Bool := by
  induction a using AV.casesOn with
  | int i => exact (asInt b).bind fun j => rest.map (decide (i = j) && ·)
  | dict d => exact (asDict b).bind fun d' => (dictInts d).bind fun x => (dictInts d').bind fun y => rest.map (eqDict x y && ·)
  | _ => exact none
noncomputable def eqFlat : List AV → List AV → Option Bool
  | [], l => if l.isEmpty = true then some true else none
  | a :: r, l => l.head?.bind fun b => eq1 a b (eqFlat r l.tail)

noncomputable def intsA (f : Int → Int → Bool) (a b : AV) : Option Bool := (asInt a).bind fun x => (asInt b).map fun y => f x y
noncomputable def ltA (a b : AV) : Option Bool := by
  induction a using AV.casesOn with
  | int x => exact (asInt b).map fun y => decide (x < y)
  | str x => exact (asStr b).map fun y => decide (x.cps.toList < y.cps.toList)
  | tup x => exact (asTup b).bind fun y => ltFlat x y
  | _ => exact none
noncomputable def eqA (a b : AV) : Option Bool := by
  induction a using AV.casesOn with
  | int x => exact (asInt b).map fun y => decide (x = y)
  | str x => exact (asStr b).map fun y => decide (x = y)
  | dict x => exact (asDict b).bind fun y => if y.isEmpty = true then some x.isEmpty else none
  | _ => exact none
noncomputable def neA (a b : AV) : Option Bool := by
  induction a using AV.casesOn with
  | int x => exact (asInt b).map fun y => !decide (x = y)
  | str x => exact (asStr b).map fun y => !decide (x = y)
  | list x => exact (asList b).bind fun y => if y.isEmpty = true then some (!x.isEmpty) else none
  | tup x => exact (asTup b).bind fun y => (eqFlat x y).map (!·)
  | _ => exact none
noncomputable def isA (a b : AV) : Option Bool := (asBool a).bind fun x => (asBool b).map fun y => x == y
noncomputable def inA (a b : AV) : Option Bool := (asStr a).bind fun x => by
  induction b using AV.casesOn with
  | str y => exact some (Txt.contains y x)
  | dict d => exact some (d.lookup x).isSome
  | _ => exact none
noncomputable def ninA (a b : AV) : Option Bool := (asStr a).bind fun x => (asStr b).map fun y => !Txt.contains y x
noncomputable def cmpA (op : CmpOp) (a b : AV) : Option Bool := by
  induction op using CmpOp.casesOn with
  | Lt => exact ltA a b
  | LtE => exact intsA (fun a b => decide (a ≤ b)) a b
  | Gt => exact intsA (fun a b => decide (b < a)) a b
  | GtE => exact intsA (fun a b => decide (b ≤ a)) a b
  | Eq => exact eqA a b
  | NotEq => exact neA a b
  | Is => exact isA a b
  | In => exact inA a b
  | NotIn => exact ninA a b
  | _ => exact none

noncomputable def chars (s : Str) : List AV := s.cps.toList.map fun c => .str ⟨#[c]⟩

noncomputable def isTupT (e : PySem.Expr) : Bool := by induction e using PySem.Expr.casesOn with | Tuple => exact true | _ => exact false

/-- what a loop over the value hands out, the loop's target known -/
noncomputable def iterA (t : PySem.Expr) (v : AV) : Option (List AV) := by
  induction v using AV.casesOn with
  | list l => exact some l
  | tup l => exact some l
  | str s => exact (if s.cps.all (· < 128) = true then some (chars s) else none)
  | dict d => exact some (d.map fun p => .str p.1)
  | rng n => exact (if small n = true then some ((List.range n.toNat).map fun i => .int (i : Nat)) else none)
  | items d => exact (if isTupT t = true then some (d.map fun p => .tup [.str p.1, p.2]) else none)
  | values d => exact some (d.map (·.2))
  | _ => exact none

noncomputable def noItems (v : AV) : Bool := by induction v using AV.casesOn with | items => exact false | _ => exact true

noncomputable def unpackA (v : AV) (n : Nat) : Option (List AV) := by
  induction v using AV.casesOn with
  | tup l => exact (if l.length = n then some l else none)
  | str s => exact (if s.length = n ∧ s.cps.all (· < 128) = true then some (chars s) else none)
  | _ => exact none

noncomputable def indexA (a b : AV) : Option AV := by
  induction a using AV.casesOn with
  | list l => exact (asInt b).bind fun i => if 0 ≤ i then (if small i = true then l[i.toNat]? else none) else if i = -1 then l.getLast? else none
  | tup l => exact (asInt b).bind fun i => if small i = true then l[i.toNat]? else none
  | str s => exact (asInt b).bind fun i => if small i = true ∧ i.toNat < s.length then some (.str (Txt.item s i)) else none
  | dict d => exact (asStr b).bind fun k => d.lookup k
  | _ => exact none

/-- bounds of a slice: none or a small int that is not negative -/
noncomputable def boundA (v : Option AV) : Option (Option Int) := v.elim (some none) fun v => (asInt v).bind fun i => if small i = true then some (some i) else none

noncomputable def sliceA (v : AV) (lo hi : Option Int) : Option AV := by
  induction v using AV.casesOn with
  | str s => exact (if s.length ≤ 4096 then some (.str (Txt.slice s lo hi)) else none)
  | list l => exact (if lo.isNone = true ∧ l.length ≤ 4096 then hi.map fun hi => .list (l.take hi.toNat) else none)
  | _ => exact none

noncomputable def strsOf : List AV → Option (List Str)
  | [] => some []
  | v :: r => (asStr v).bind fun s => (strsOf r).map (s :: ·)

noncomputable def posOf (k : Str) : List Str → Option Nat
  | [] => none
  | s :: r => if s = k then some 0 else (posOf k r).map (· + 1)

noncomputable def find4 (s t : Str) (a b : Int) : Int :=
  match Builtin.Str.occurrences s t a.toNat (min b.toNat s.length) 1 with
  | i :: _ => (i : Int)
  | [] => -1

noncomputable def findM (s : Str) (args : List AV) : Option AV := args.head?.bind fun t => (asStr t).bind fun t => if args.tail.isEmpty = true then some (.int (Txt.find s t)) else (two args.tail).bind fun q =>
  (asInt q.1).bind fun a => (asInt q.2).bind fun b => if small a = true ∧ small b = true then some (.int (find4 s t a b)) else none
noncomputable def splitM (s : Str) (args : List AV) : Option AV :=
  if args.isEmpty = true then (if s.length ≤ 4096 ∧ (Builtin.Str.spaceWords s (s.length + 1)).length ≤ 4096 then some (.list ((Txt.words s).map .str)) else none)
  else (one args).bind fun t => (asStr t).bind fun t => if (t.length == 0) = false ∧ s.length ≤ 4096 ∧ (Builtin.Str.partsBetween s (Builtin.Str.occurrences s t 0 s.length (s.length + 1)) t.length).length ≤ 4096 then some (.list ((Txt.split s t).map .str)) else none
noncomputable def joinM (s : Str) (args : List AV) : Option AV := (one args).bind fun l => (asList l).bind fun l => (strsOf l).bind fun ts => if JoinOk s ts then some (.str (Txt.join s ts)) else none
noncomputable def strM (name : Str) (s : Str) (args : List AV) : Option AV :=
  if name = Str.ofString "find" then findM s args else if name = Str.ofString "split" then splitM s args else if name = Str.ofString "join" then joinM s args else none
noncomputable def listM (name : Str) (l : List AV) (args : List AV) : Option AV :=
  if name = Str.ofString "index" then (one args).bind fun k => (asStr k).bind fun k => (strsOf l).bind fun ts => if ts.length ≤ 4096 then (posOf k ts).map fun i => .int (i : Nat) else none else none
noncomputable def dictM (name : Str) (d : List (Str × AV)) (args : List AV) : Option AV :=
  if name = Str.ofString "get" then (two args).bind fun q => (asStr q.1).map fun k => (d.lookup k).getD q.2
  else if args.isEmpty = true then (if name = Str.ofString "items" then some (.items d) else if name = Str.ofString "values" then some (.values d) else none) else none
noncomputable def methA (name : Str) (v : AV) (args : List AV) : Option AV := by
  induction v using AV.casesOn with
  | str s => exact strM name s args
  | list l => exact listM name l args
  | dict d => exact dictM name d args
  | _ => exact none

noncomputable def sumInts (l : List Int) : Int := l.sum

/-- the best of a list: lt says whether the new one is better -/
noncomputable def bestBy (lt : List AV → List AV → Option Bool) : AV → List AV → Option AV
  | v, [] => some v
  | v, w :: r => (asTup v).bind fun a => (asTup w).bind fun b => (lt b a).bind fun c => bestBy lt (if c = true then w else v) r

/-- calls of methods are read where they stand on one line, upon no call of a name without arguments -/
noncomputable def lineOk (apos pos : Pos) : Bool := apos.endLine == pos.line
noncomputable def baseOk (e : PySem.Expr) : Bool := by induction e using PySem.Expr.casesOn with | Call => exact false | _ => exact true

noncomputable def lenA (v : AV) : Option Int := by
  induction v using AV.casesOn with
  | list l => exact some l.length
  | str s => exact some s.length
  | _ => exact none

noncomputable def sumA (v : AV) : Option AV := by
  induction v using AV.casesOn with
  | list l => exact (asInts l).bind fun is => if is.all small = true ∧ is.length ≤ 4096 then some (.int (sumInts is)) else none
  | values d => exact (dictInts d).bind fun ps => if (ps.map (·.2)).all small = true ∧ ps.length ≤ 4096 then some (.int (sumInts (ps.map (·.2)))) else none
  | _ => exact none
noncomputable def maxA (args : List AR) : Option AV := (two args).bind fun q => ((clean q.1).bind asTup).bind fun a => ((clean q.2).bind asTup).bind fun b => (ltFlat a b).map fun c => .tup (if c = true then b else a)
noncomputable def minA (args : List AR) : Option AV := (one args).bind fun a => ((clean a).bind asList).bind fun l => l.head?.bind fun x => bestBy ltFlat x l.tail
/-- calls of the built-in functions by their names -/
noncomputable def builtinA (f : Str) (args : List AR) : Option AV :=
  if f = Str.ofString "min" then minA args
  else if f = Str.ofString "max" then maxA args
  else (one args).bind fun a =>
    if f = Str.ofString "len" then (lenA a.v).bind fun n => if small n = true then some (.int n) else none
    else if f = Str.ofString "range" then (asInt a.v).bind fun n => if small n = true then some (.rng n) else none
    else if f = Str.ofString "sum" then sumA a.v
    else none

section
variable (r : Rec)

noncomputable def notStar (e : PySem.Expr) : Bool := by induction e using PySem.Expr.casesOn with | Starred => exact false | _ => exact true

noncomputable def evs (cx : CX) (ρ : R) : List PySem.Expr → Option (List AV)
  | [] => some []
  | e :: es => if notStar e = true then ((r.ev cx ρ e).bind clean).bind fun v => (evs cx ρ es).map (v :: ·) else none

noncomputable def evrs (cx : CX) (ρ : R) : List PySem.Expr → Option (List AR)
  | [] => some []
  | e :: es => if notStar e = true then (r.ev cx ρ e).bind fun v => (evrs cx ρ es).map (v :: ·) else none

/-- binds the names of a comprehension's target -/
noncomputable def freshC (cx : CX) (ρ : R) (x : Str) : Bool := isK .comp (kind cx x) && (ρ.comp.lookup x).isNone
noncomputable def bind2 (cx : CX) (ρ : R) (x y : Str) (v : AV) : Option R := ((unpackA v 2).bind two).bind fun q =>
  if freshC cx ρ x = true ∧ freshC cx ρ y = true ∧ x ≠ y then some { ρ with comp := (y, q.2) :: (x, q.1) :: ρ.comp } else none
noncomputable def bindT (cx : CX) (ρ : R) (t : PySem.Expr) (v : AV) : Option R := by
  induction t using PySem.Expr.casesOn with
  | Name x p => exact (if freshC cx ρ x = true then some { ρ with comp := (x, v) :: ρ.comp } else none)
  | Tuple ts k p => exact (two ts).bind fun q => (nameOf q.1).bind fun x => (nameOf q.2).bind fun y => bind2 cx ρ x y v
  | _ => exact none

noncomputable def testsA (cx : CX) (ρ : R) (l : List PySem.Expr) : Option Bool := if l.isEmpty = true then some true else (one l).bind fun c => r.ts cx ρ c

/-- the items of one clause, the clauses behind it, what is emitted -/
noncomputable def stepA {β : Type} (emit : R → Option β) (inner : Option (R → List β → Option (List β))) (ρ1 : R) (acc : List β) : Option (List β) :=
  inner.elim (if acc.length < 4096 then (emit ρ1).map fun b => acc ++ [b] else none) fun f => f ρ1 acc
noncomputable def compA {β : Type} (cx : CX) (emit : R → Option β) (t : PySem.Expr) (ifs : List PySem.Expr) (inner : Option (R → List β → Option (List β))) (ρ : R) : List AV → List β → Option (List β)
  | [], acc => some acc
  | v :: vs, acc => (bindT cx ρ t v).bind fun ρ1 => (testsA r cx ρ1 ifs).bind fun c => (if c = true then stepA emit inner ρ1 acc else some acc).bind fun acc' => compA cx emit t ifs inner ρ vs acc'

/-- the scope of a comprehension beside the frame's -/
noncomputable def scopeOk (sc cs : Scope) : Bool := (cs.kind == .function) && cs.names.all fun p => match p.2 with
  | .local => cs.names.lookup p.1 == some .local
  | .free => sc.names.lookup p.1 == some .cell && (cs.names.lookup p.1 == some .free)
  | .cell => false
  | _ => true

noncomputable def notSet (e : PySem.Expr) : Bool := by induction e using PySem.Expr.casesOn with | Set => exact false | _ => exact true

/-- what a clause runs over -/
noncomputable def srcA (cx : CX) (ρ : R) (g : Comprehension) : Option (List AV) := if g.is_async = 0 then ((r.ev cx ρ g.iter).bind clean).bind fun src => (iterA g.target src).bind fun l =>
  if l.length ≤ 4096 ∧ noItems src = true then some l else none else none
/-- a comprehension of one or two clauses; the first source is reckoned outside -/
noncomputable def comprA {β : Type} (cx : CX) (cs : Scope) (ρ : R) (emit : R → Option β) (gens : List Comprehension) : Option (List β) :=
  if (scopeOk cx.sc cs && gens.all fun g => notSet g.iter) = true then (one gens).elim
    ((two gens).bind fun q => (srcA r cx ρ q.1).bind fun l => compA r ⟨cx.sc, some cs⟩ (fun _ => none) q.1.target q.1.ifs
      (some fun ρ1 acc => (srcA r ⟨cx.sc, some cs⟩ ρ1 q.2).bind fun l2 => compA r ⟨cx.sc, some cs⟩ emit q.2.target q.2.ifs none ρ1 l2 acc) { ρ with comp := [] } l [])
    fun g => (srcA r cx ρ g).bind fun l => compA r ⟨cx.sc, some cs⟩ emit g.target g.ifs none { ρ with comp := [] } l []
  else none

noncomputable def isDef (f : Str) (defs : List (Str × Def)) : Bool := decide (f ≠ Str.ofString "compare") && (defs.lookup f).isSome

noncomputable def optA (cx : CX) (ρ : R) (e : Option PySem.Expr) : Option (Option AV) := e.elim (some none) fun e => (r.ev cx ρ e).map fun a => some a.v
noncomputable def mkR (v : AV) : AR := ⟨v, false⟩

noncomputable def sliceForm (e : PySem.Expr) : Option (Option PySem.Expr × Option PySem.Expr) := by induction e using PySem.Expr.casesOn with | Slice lo hi st p => exact (if st.isNone = true then some (lo, hi) else none) | _ => exact none
noncomputable def evSub (cx : CX) (ρ : R) (e i : PySem.Expr) : Option AR :=
  (sliceForm i).elim ((r.ev cx ρ e).bind fun a => (r.ev cx ρ i).bind fun b => (indexA a.v b.v).map mkR) fun q =>
    (r.ev cx ρ e).bind fun a => ((optA r cx ρ q.1).bind boundA).bind fun l => ((optA r cx ρ q.2).bind boundA).bind fun h => (sliceA a.v l h).map mkR
/-- what a method gives: views of a container of one's own are not handed on -/
noncomputable def isView (v : AV) : Bool := by induction v using AV.casesOn with | items => exact true | values => exact true | _ => exact false
noncomputable def handOn (own : Bool) (v : AV) : Option AR := if (own && isView v) = true then none else val v
noncomputable def retClean (p : AV × Option AV) : Option AV := if p.2.isNone = true then some p.1 else none
noncomputable def evMeth (cx : CX) (ρ : R) (o : PySem.Expr) (name : Str) (apos : Pos) (args : List PySem.Expr) (pos : Pos) : Option AR :=
  if lineOk apos pos = true ∧ baseOk o = true ∧ args.length < 20 then (r.ev cx ρ o).bind fun a => (evs r cx ρ args).bind fun vs => ((clean a).bind asInst).elim ((methA name a.v vs).bind fun v => handOn a.own v) fun l =>
    if name = Str.ofString "compare" then ((r.call (Str.ofString "compare") (.frz (.inst l) :: vs.map .frz)).bind retClean).map mkR else none
  else none
noncomputable def evIsi (cx : CX) (ρ : R) (args : List PySem.Expr) : Option AR := (two args).bind fun q => (nameOf q.2).bind fun t =>
  if notStar q.1 = true ∧ isK .glob (kind cx t) = true ∧ t = Str.ofString "tuple" then ((r.ev cx ρ q.1).bind intV).map fun _ => mkR (.bool false) else none
noncomputable def evFn (defs : List (Str × Def)) (cx : CX) (ρ : R) (f : Str) (args : List PySem.Expr) : Option AR :=
  if isK .glob (kind cx f) = true then
    if f = Str.ofString "isinstance" then evIsi r cx ρ args
    else if f = Str.ofString "TupleComp" then ((evs r cx ρ args).bind one).map fun v => mkR (.inst v)
    else if isDef f defs = true then (evs r cx ρ args).bind fun vs => ((r.call f (vs.map .frz)).bind retClean).map mkR
    else (evrs r cx ρ args).bind fun vs => (builtinA f vs).map mkR
  else none
noncomputable def evCon (c : Const) : Option AR := by
  induction c using Const.casesOn with
  | none => exact val .none
  | bool b => exact val (.bool b)
  | int i => exact val (.int i)
  | str s => exact (if s.length ≤ 4096 then val (.str s) else none)
  | _ => exact none
noncomputable def evVar (cx : CX) (ρ : R) (x : Str) : Option AR :=
  if x ≠ Str.ofString "__debug__" then
    if isK .comp (kind cx x) = true then (ρ.comp.lookup x).map mkR
    else if isK .var (kind cx x) = true then (ρ.vars.lookup x).map Var.read
    else if isK .glob (kind cx x) = true then (globA x).map mkR else none
  else none
noncomputable def emitL (cx : CX) (e : PySem.Expr) : R → Option AV := fun ρ1 => (r.ev cx ρ1 e).bind clean
noncomputable def emitD (cx : CX) (k e : PySem.Expr) : R → Option (Str × AV) := fun ρ1 => ((r.ev cx ρ1 k).bind strV).bind fun k => ((r.ev cx ρ1 e).bind clean).map fun v => (k, v)
noncomputable def isUSub (op : UnaryOp) : Bool := by induction op using UnaryOp.casesOn with | USub => exact true | _ => exact false
noncomputable def isNot (op : UnaryOp) : Bool := by induction op using UnaryOp.casesOn with | Not => exact true | _ => exact false
noncomputable def isAnd (op : BoolOp) : Bool := by induction op using BoolOp.casesOn with | And => exact true | _ => exact false
noncomputable def evCall (defs : List (Str × Def)) (cx : CX) (ρ : R) (f : PySem.Expr) (args : List PySem.Expr) (pos : Pos) : Option AR := by
  induction f using PySem.Expr.casesOn with
  | Attribute o name apos => exact evMeth r cx ρ o name apos args pos
  | Name f p => exact evFn r defs cx ρ f args
  | _ => exact none

noncomputable def evA (defs : List (Str × Def)) (cx : CX) (ρ : R) (e : PySem.Expr) : Option AR := by
  induction e using PySem.Expr.casesOn with
  | Constant c k p => exact evCon c
  | Name x p => exact evVar cx ρ x
  | BinOp l op e p => exact (r.ev cx ρ l).bind fun a => (r.ev cx ρ e).bind fun b => (binA op a.v b.v).map mkR
  | UnaryOp op e p => exact (if isUSub op = true then ((r.ev cx ρ e).bind intV).map fun i => mkR (.int (-i)) else none)
  | IfExp t a b p => exact (r.ts cx ρ t).bind fun c => r.ev cx ρ (if c = true then a else b)
  | Tuple es k p => exact (evs r cx ρ es).bind fun l => if l.length ≤ 4096 then val (.tup l) else none
  | List es p => exact (evs r cx ρ es).bind fun l => if l.length ≤ 4096 then val (.list l) else none
  | Dict ks vs p => exact (if ks.isEmpty = true ∧ vs.isEmpty = true then val (.dict []) else none)
  | ListComp e gens cs p => exact (if cx.cs.isNone = true then (comprA r cx cs ρ (emitL r ⟨cx.sc, some cs⟩ e) gens).map fun l => ⟨.list l, false⟩ else none)
  | DictComp k e gens cs p => exact (if cx.cs.isNone = true then (comprA r cx cs ρ (emitD r ⟨cx.sc, some cs⟩ k e) gens).map fun l => ⟨.dict (l.foldl (fun d p => put d p.1 p.2) []), false⟩ else none)
  | Subscript e i p => exact evSub r cx ρ e i
  | Attribute e name p => exact (((r.ev cx ρ e).bind clean).bind asInst).bind fun l => if name = Str.ofString "comp_select_list" ∧ baseOk e = true then val l else none
  | Call f args kws pos => exact (if kws.isEmpty = true then evCall r defs cx ρ f args pos else none)
  | _ => exact none

noncomputable def andA (cx : CX) (ρ : R) : List PySem.Expr → Option Bool
  | [] => some true
  | e :: es => (r.ts cx ρ e).bind fun c => if c = true then andA cx ρ es else some false

noncomputable def plainTest (e : PySem.Expr) : Bool := by induction e using PySem.Expr.casesOn with | Name => exact true | Call => exact true | Subscript => exact true | _ => exact false

noncomputable def tsCmp (cx : CX) (ρ : R) (l : PySem.Expr) (ops : List CmpOp) (es : List PySem.Expr) : Option Bool :=
  (one ops).elim
    ((two ops).bind fun o => (two es).bind fun x => if notSet x.2 = true then (r.ev cx ρ l).bind fun a => (r.ev cx ρ x.1).bind fun b => (cmpA o.1 a.v b.v).bind fun c =>
      if c = true then (r.ev cx ρ x.2).bind fun d => cmpA o.2 b.v d.v else some false else none)
    fun op => (one es).bind fun e => if notSet e = true then (r.ev cx ρ l).bind fun a => (r.ev cx ρ e).bind fun b => cmpA op a.v b.v else none
noncomputable def tsPlain (cx : CX) (ρ : R) (e : PySem.Expr) : Option Bool := (r.ev cx ρ e).bind fun a => truthA a.v
noncomputable def tsA (cx : CX) (ρ : R) (e : PySem.Expr) : Option Bool := by
  induction e using PySem.Expr.casesOn with
  | UnaryOp op e p => exact (if isNot op = true then (r.ts cx ρ e).map (!·) else none)
  | BoolOp op es p => exact (if isAnd op = true then andA r cx ρ es else none)
  | Compare l ops es p => exact tsCmp r cx ρ l ops es
  | Name x p => exact tsPlain r cx ρ (.Name x p)
  | Call f as ks p => exact tsPlain r cx ρ (.Call f as ks p)
  | Subscript e i p => exact tsPlain r cx ρ (.Subscript e i p)
  | _ => exact none

/-! statements -/

noncomputable def isIo (w : Option Var) : Bool := w.elim false fun w => w.casesOn (fun _ => false) (fun _ => false) fun _ => true
noncomputable def setV (sc : Scope) (ρ : R) (x : Str) (v : Var) : Option R :=
  if isK .var (kind ⟨sc, none⟩ x) = true ∧ isIo (ρ.vars.lookup x) = false then some { ρ with vars := put ρ.vars x v } else none

noncomputable def setAll (sc : Scope) : List PySem.Expr → List AV → R → Option R
  | [], l, ρ => if l.isEmpty = true then some ρ else none
  | t :: ts, l, ρ => (nameOf t).bind fun x => l.head?.bind fun v => (setV sc ρ x (.frz v)).bind fun ρ' => setAll sc ts l.tail ρ'

noncomputable def assignA (sc : Scope) (t : PySem.Expr) (v : AV) (ρ : R) : Option R := by
  induction t using PySem.Expr.casesOn with
  | Name x p => exact setV sc ρ x (.frz v)
  | Tuple ts k p => exact (unpackA v ts.length).bind fun l => setAll sc ts l ρ
  | _ => exact none

noncomputable def frzOf (w : Option Var) : Option AV := w.bind fun w => w.casesOn (fun _ => none) some fun _ => none
noncomputable def freeze1 (ρ : R) (x : Str) : R := (frzOf (ρ.vars.lookup x)).elim ρ fun v => { ρ with vars := put ρ.vars x (.frz v) }

/-- the names whose values an expression hands on -/
noncomputable def handed : Nat → PySem.Expr → List Str
  | 0, _ => []
  | _ + 1, .Name x _ => [x]
  | n + 1, .Tuple es _ _ => es.flatMap (handed n)
  | n + 1, .List es _ => es.flatMap (handed n)
  | n + 1, .BinOp a _ b _ => handed n a ++ handed n b
  | n + 1, .IfExp _ a b _ => handed n a ++ handed n b
  | n + 1, .Subscript a b _ => (match a with | .Name .. => [] | _ => handed n a) ++ handed n b
  | n + 1, .Call (.Attribute o _ _) es _ _ => handed n o ++ es.flatMap (handed n)
  | n + 1, .Call (.Name f _) es _ _ => if f = Str.ofString "len" then [] else es.flatMap (handed n)
  | n + 1, .ListComp _ (⟨_, it, _, _⟩ :: _) _ _ => handed n it
  | n + 1, .DictComp _ _ (⟨_, it, _, _⟩ :: _) _ _ => handed n it
  | n + 1, .Compare a _ bs _ => (match a with | .Name .. => [] | _ => handed n a) ++ bs.flatMap fun b => match b with | .Name .. => [] | _ => handed n b
  | _, _ => []

noncomputable def freeze (ρ : R) (e : PySem.Expr) : R := (handed 12 e).foldl freeze1 ρ

noncomputable def isFreshForm (e : PySem.Expr) : Bool := by
  induction e using PySem.Expr.casesOn with
  | ListComp => exact true
  | DictComp => exact true
  | Dict ks vs p => exact ks.isEmpty && vs.isEmpty
  | List es p => exact es.isEmpty
  | _ => exact false

noncomputable def ownV (w : Var) : Option AV := w.casesOn (fun _ => none) some some
noncomputable def ownOf (ρ : R) (x : Str) : Option AV := if x ≠ Str.ofString "__debug__" then (ρ.vars.lookup x).bind ownV else none

noncomputable def reown (w : Option Var) (v : AV) : Var := w.elim (.own v) fun w => w.casesOn (fun _ => .own v) (fun _ => .own v) fun _ => .io v
noncomputable def setOwn (ρ : R) (x : Str) (v : AV) : R := { ρ with vars := put ρ.vars x (reown (ρ.vars.lookup x) v) }

/-- a call of a def whose first argument is an own container -/
noncomputable def ioCall (defs : List (Str × Def)) (sc : Scope) (ρ : R) (f h : Str) (args : List PySem.Expr) : Option (AV × R) :=
  if isK .glob (kind ⟨sc, none⟩ f) = true ∧ isK .var (kind ⟨sc, none⟩ h) = true ∧ isDef f defs = true then (ownOf ρ h).bind fun c => (evs r ⟨sc, none⟩ ρ args).bind fun vs =>
    (r.call f (.own c :: vs.map .frz)).bind fun p => p.2.map fun c' => (p.1, setOwn ρ h c')
  else none

noncomputable def storeA (c i v : AV) : Option AV := by
  induction c using AV.casesOn with
  | list l => exact (asInt i).bind fun i => if small i = true ∧ i.toNat < l.length then some (.list (l.set i.toNat v)) else none
  | dict d => exact (asStr i).bind fun k => if d.length ≤ 4096 then some (.dict (put d k v)) else none
  | _ => exact none

noncomputable def popA (l : List AV) : Option (AV × List AV) := l.getLast?.map fun v => (v, l.dropLast)

noncomputable def isSlice (e : PySem.Expr) : Bool := by induction e using PySem.Expr.casesOn with | Slice => exact true | _ => exact false

noncomputable def isSetComp (e : PySem.Expr) : Bool := by induction e using PySem.Expr.casesOn with | SetComp => exact true | _ => exact false

/-- the exchange of two stores -/
noncomputable def swapOk (ts : List PySem.Expr) (e : PySem.Expr) : Bool := by
  induction e using PySem.Expr.casesOn with
  | Tuple vs k p => exact ts.length == 2 && !(vs.all (constantsAlone 8))
  | _ => exact true

/-- the forms of values and statements that are read by themselves -/
noncomputable def popForm (e : PySem.Expr) : Option (Str × Str × Pos × Pos) := (callV e).bind fun c => if c.2.1.isEmpty = true then (attV c.1).bind fun a => (nameOf a.1).map fun h => (h, a.2.1, a.2.2, c.2.2) else none
noncomputable def callForm (e : PySem.Expr) : Option (Str × Pos × Str × Pos × List PySem.Expr × Pos) := (callV e).bind fun c => (nameV c.1).bind fun f => c.2.1.head?.bind fun a => (nameV a).map fun h => (f.1, f.2, h.1, h.2, c.2.1.tail, c.2.2)
noncomputable def appForm (e : PySem.Expr) : Option (Str × Str × PySem.Expr × Pos × Pos) := (callV e).bind fun c => (attV c.1).bind fun a => (one c.2.1).bind fun x => (nameOf a.1).map fun h => (h, a.2.1, x, a.2.2, c.2.2)
noncomputable def call1 (e : PySem.Expr) : Option (Str × PySem.Expr) := (callV e).bind fun c => (one c.2.1).bind fun x => (nameOf c.1).map fun f => (f, x)
noncomputable def revForm (it : PySem.Expr) : Option (Str × Str × PySem.Expr) := (call1 it).bind fun p => (call1 p.2).map fun q => (p.1, q.1, q.2)

noncomputable def exPop (sc : Scope) (ρ : R) (x h m : Str) (apos pos : Pos) : Option (Fl × R) :=
  if m = Str.ofString "pop" ∧ lineOk apos pos = true ∧ isK .var (kind ⟨sc, none⟩ h) = true then (ownOf ρ h).bind fun c => (asList c).bind fun l => if l.length ≤ 4096 then (popA l).bind fun p =>
    (setV sc (setOwn ρ h (.list p.2)) x (.frz p.1)).map fun ρ' => (.next, ρ') else none
  else none
noncomputable def exName (sc : Scope) (ρ : R) (x : Str) (value : PySem.Expr) : Option (Fl × R) :=
  ((r.ev ⟨sc, none⟩ (freeze ρ value) value).bind clean).bind fun v =>
    if isFreshForm value = true then (setV sc (freeze ρ value) x (.own v)).map fun ρ' => (.next, ρ')
    else if isSetComp value = false then (setV sc (freeze ρ value) x (.frz v)).map fun ρ' => (.next, ρ')
    else none
noncomputable def exCallT (defs : List (Str × Def)) (sc : Scope) (ρ : R) (ts : List PySem.Expr) (k : Nat) (p : Pos) (f : Str) (fp : Pos) (h : Str) (hp : Pos) (args : List PySem.Expr) (cp : Pos) : Option (Fl × R) :=
  if (ownOf ρ h).isSome = true then (ioCall r defs sc ρ f h args).bind fun q => (assignA sc (.Tuple ts k p) q.1 q.2).map fun ρ' => (.next, ρ')
  else ((r.ev ⟨sc, none⟩ ρ (.Call (.Name f fp) (.Name h hp :: args) [] cp)).bind clean).bind fun v => (assignA sc (.Tuple ts k p) v ρ).map fun ρ' => (.next, ρ')
noncomputable def exTup (sc : Scope) (ρ : R) (ts : List PySem.Expr) (k : Nat) (p : Pos) (value : PySem.Expr) : Option (Fl × R) :=
  if swapOk ts value = true then ((r.ev ⟨sc, none⟩ (freeze ρ value) value).bind clean).bind fun v => (assignA sc (.Tuple ts k p) v (freeze ρ value)).map fun ρ' => (.next, ρ') else none
noncomputable def exSub (sc : Scope) (ρ : R) (x : Str) (i value : PySem.Expr) : Option (Fl × R) :=
  if isK .var (kind ⟨sc, none⟩ x) = true then ((r.ev ⟨sc, none⟩ (freeze ρ value) value).bind clean).bind fun v => (r.ev ⟨sc, none⟩ (freeze ρ value) i).bind fun i => (ownOf (freeze ρ value) x).bind fun c =>
    (storeA c i.v v).map fun c' => (.next, setOwn (freeze ρ value) x c')
  else none
noncomputable def exAssign (defs : List (Str × Def)) (sc : Scope) (ρ : R) (t value : PySem.Expr) : Option (Fl × R) := by
  induction t using PySem.Expr.casesOn with
  | Name x p => exact (popForm value).elim (exName r sc ρ x value) fun q => exPop sc ρ x q.1 q.2.1 q.2.2.1 q.2.2.2
  | Tuple ts k p => exact (callForm value).elim (exTup r sc ρ ts k p value) fun q => exCallT r defs sc ρ ts k p q.1 q.2.1 q.2.2.1 q.2.2.2.1 q.2.2.2.2.1 q.2.2.2.2.2
  | Subscript e i p => exact (nameOf e).bind fun x => exSub r sc ρ x i value
  | _ => exact none
noncomputable def isAdd (op : Operator) : Bool := by induction op using Operator.casesOn with | Add => exact true | _ => exact false
noncomputable def frzInt (w : Var) : Option Int := w.casesOn asInt (fun _ => none) fun _ => none
noncomputable def exAugN (sc : Scope) (ρ : R) (x : Str) (op : Operator) (value : PySem.Expr) : Option (Fl × R) :=
  if isK .var (kind ⟨sc, none⟩ x) = true ∧ isAdd op = true then ((ρ.vars.lookup x).bind frzInt).bind fun a => ((r.ev ⟨sc, none⟩ ρ value).bind intV).bind fun b =>
    (setV sc ρ x (.frz (.int (a + b)))).map fun ρ' => (.next, ρ')
  else none
noncomputable def exAugS (sc : Scope) (ρ : R) (x : Str) (i : PySem.Expr) (op : Operator) (value : PySem.Expr) : Option (Fl × R) :=
  if isSlice i = false ∧ isK .var (kind ⟨sc, none⟩ x) = true ∧ isAdd op = true then ((ownOf ρ x).bind asDict).bind fun d => ((r.ev ⟨sc, none⟩ ρ i).bind strV).bind fun k => ((r.ev ⟨sc, none⟩ ρ value).bind intV).bind fun b =>
    ((d.lookup k).bind asInt).bind fun a => if d.length ≤ 4096 then some (.next, setOwn ρ x (.dict (put d k (.int (a + b))))) else none
  else none
noncomputable def exAug (sc : Scope) (ρ : R) (t : PySem.Expr) (op : Operator) (value : PySem.Expr) : Option (Fl × R) := by
  induction t using PySem.Expr.casesOn with
  | Name x p => exact exAugN r sc ρ x op value
  | Subscript e i p => exact (nameOf e).bind fun x => exAugS r sc ρ x i op value
  | _ => exact none
noncomputable def exAppend (sc : Scope) (ρ : R) (x m : Str) (e : PySem.Expr) (apos pos : Pos) : Option (Fl × R) :=
  if m = Str.ofString "append" ∧ lineOk apos pos = true ∧ notStar e = true ∧ isK .var (kind ⟨sc, none⟩ x) = true then ((r.ev ⟨sc, none⟩ (freeze ρ e) e).bind clean).bind fun v => ((ownOf (freeze ρ e) x).bind asList).bind fun l =>
    if l.length ≤ 4096 then some (.next, setOwn (freeze ρ e) x (.list (l ++ [v]))) else none
  else none
noncomputable def exIo (defs : List (Str × Def)) (sc : Scope) (ρ : R) (f h : Str) (args : List PySem.Expr) : Option (Fl × R) :=
  (ioCall r defs sc ρ f h args).bind fun q => if isNoneA q.1 = true then some (.next, q.2) else none
noncomputable def exExpr (defs : List (Str × Def)) (sc : Scope) (ρ : R) (e : PySem.Expr) : Option (Fl × R) :=
  (appForm e).elim ((callForm e).bind fun q => exIo r defs sc ρ q.1 q.2.2.1 q.2.2.2.2.1) fun q => exAppend r sc ρ q.1 q.2.1 q.2.2.1 q.2.2.2.1 q.2.2.2.2
noncomputable def exIf (sc : Scope) (ρ : R) (t : PySem.Expr) (body orelse : List Stmt) : Option (Fl × R) :=
  (r.ts ⟨sc, none⟩ (freeze ρ t) t).bind fun c => r.ex sc (freeze ρ t) (if c = true then body else orelse)
noncomputable def exRev (fo : Scope → PySem.Expr → List Stmt → List AV → R → Option (Fl × R)) (sc : Scope) (ρ : R) (t : PySem.Expr) (f g : Str) (e : PySem.Expr) (body : List Stmt) : Option (Fl × R) :=
  if f = Str.ofString "reversed" ∧ g = Str.ofString "range" ∧ notStar e = true ∧ isK .glob (kind ⟨sc, none⟩ f) = true ∧ isK .glob (kind ⟨sc, none⟩ g) = true then ((r.ev ⟨sc, none⟩ ρ e).bind intV).bind fun n =>
    if small n = true then fo sc t body ((List.range n.toNat).reverse.map fun i => .int (i : Nat)) ρ else none
  else none
noncomputable def exForA (fo : Scope → PySem.Expr → List Stmt → List AV → R → Option (Fl × R)) (sc : Scope) (ρ : R) (t it : PySem.Expr) (body : List Stmt) : Option (Fl × R) :=
  if notSet it = true then ((r.ev ⟨sc, none⟩ (freeze ρ it) it).bind clean).bind fun src => (iterA t src).bind fun l => if l.length ≤ 4096 then fo sc t body l (freeze ρ it) else none else none
noncomputable def exFor (fo : Scope → PySem.Expr → List Stmt → List AV → R → Option (Fl × R)) (sc : Scope) (ρ : R) (t it : PySem.Expr) (body : List Stmt) : Option (Fl × R) :=
  (revForm it).elim (exForA r fo sc ρ t it body) fun q => exRev r fo sc ρ t q.1 q.2.1 q.2.2 body
noncomputable def exRet (sc : Scope) (ρ : R) (e : PySem.Expr) : Option (Fl × R) := ((r.ev ⟨sc, none⟩ (freeze ρ e) e).bind clean).map fun v => (.ret v, freeze ρ e)

noncomputable def ex1 (defs : List (Str × Def)) (wh : Scope → R → PySem.Expr → List Stmt → Option (Fl × R)) (fo : Scope → PySem.Expr → List Stmt → List AV → R → Option (Fl × R)) (sc : Scope) (ρ : R) (st : Stmt) : Option (Fl × R) := by
  induction st using Stmt.casesOn with
  | Return e p => exact e.bind fun e => exRet r sc ρ e
  | Assign ts value p => exact (one ts).bind fun t => exAssign r defs sc ρ t value
  | AugAssign t op value p => exact exAug r sc ρ t op value
  | Expr e p => exact exExpr r defs sc ρ e
  | If t body orelse p => exact exIf r sc ρ t body orelse
  | While t body orelse p => exact (if orelse.isEmpty = true then wh sc ρ t body else none)
  | For t it body orelse p => exact (if orelse.isEmpty = true then exFor r fo sc ρ t it body else none)
  | Break p => exact some (.brk, ρ)
  | Continue p => exact some (.cont, ρ)
  | Assert t m p => exact (if m.isNone = true ∧ r.ts ⟨sc, none⟩ ρ t = some true then some (.next, ρ) else none)
  | _ => exact none

/-- what goes on behind a statement; a loop's turn -/
noncomputable def seqGo (p : Fl × R) (go : R → Option (Fl × R)) : Option (Fl × R) := p.1.casesOn (go p.2) (some (.brk, p.2)) (some (.cont, p.2)) fun v => some (.ret v, p.2)
noncomputable def turnGo (p : Fl × R) (go : R → Option (Fl × R)) : Option (Fl × R) := p.1.casesOn (go p.2) (some (.next, p.2)) (go p.2) fun v => some (.ret v, p.2)

noncomputable def forA (sc : Scope) (t : PySem.Expr) (body : List Stmt) : List AV → R → Option (Fl × R)
  | [], ρ => some (.next, ρ)
  | v :: vs, ρ => (assignA sc t v ρ).bind fun ρ1 => (r.ex sc ρ1 body).bind fun p => turnGo p fun ρ2 => forA sc t body vs ρ2

noncomputable def whileA (sc : Scope) (t : PySem.Expr) (body : List Stmt) : Nat → R → Option (Fl × R)
  | 0, _ => none
  | n + 1, ρ => (r.ts ⟨sc, none⟩ ρ t).bind fun c => if c = true then (r.ex sc ρ body).bind fun p => turnGo p fun ρ2 => whileA sc t body n ρ2 else some (.next, ρ)

noncomputable def exs (defs : List (Str × Def)) (sc : Scope) : R → List Stmt → Option (Fl × R)
  | ρ, [] => some (.next, ρ)
  | ρ, st :: rest => (ex1 r defs (fun sc ρ t body => whileA r sc t body 64 ρ) (forA r) sc ρ st).bind fun p => seqGo p fun ρ' => exs defs sc ρ' rest

noncomputable def argVar : Var → Var
  | .own v => .io v
  | .io v => .io v
  | .frz v => .frz v

noncomputable def retV (f : Fl) : Option AV := f.casesOn (some .none) none none some
noncomputable def ioV (w : Var) : Option AV := w.casesOn (fun _ => none) (fun _ => none) some
noncomputable def isOwn (w : Var) : Bool := w.casesOn (fun _ => false) (fun _ => true) fun _ => false
noncomputable def callA (defs : List (Str × Def)) (f : Str) (args : List Var) : Option (AV × Option AV) :=
  (defs.lookup f).bind fun d => if d.params.length = args.length then (r.ex d.sc ⟨d.params.zip (args.map argVar), []⟩ d.body).bind fun p => (retV p.1).bind fun v =>
    if (args.head?.elim false isOwn) = true then d.params.head?.bind fun x => ((p.2.vars.lookup x).bind ioV).map fun c => (v, some c) else some (v, none)
  else none

end

noncomputable def stepRec (defs : List (Str × Def)) (r : Rec) : Rec := ⟨evA r defs, tsA r, exs r defs, callA r defs⟩
noncomputable def botRec : Rec := ⟨fun _ _ _ => none, fun _ _ _ => none, fun _ _ _ => none, fun _ _ => none⟩
noncomputable def recA (defs : List (Str × Def)) : Nat → Rec
  | 0 => botRec
  | n + 1 => stepRec defs (recA defs n)

/-! the program's defs -/

noncomputable def defsOf : List Stmt → List (Str × Def)
  | [] => []
  | .FunctionDef name a body _ _ _ sc _ _ _ :: r => (name, ⟨a.args.map (·.arg), body, sc⟩) :: defsOf r
  | .ClassDef _ _ _ body _ _ _ _ _ _ _ :: r => (body.filterMap fun
      | .FunctionDef name a body _ _ _ sc _ _ _ => if name = Str.ofString "compare" then some (name, ⟨a.args.map (·.arg), body, sc⟩) else none
      | _ => none) ++ defsOf r
  | _ :: r => defsOf r

noncomputable def theDefs : List (Str × Def) := defsOf PySem.Challenge.pw_pg0157_01.main.body

end Mine

end

/-! part Rel -/
section
set_option maxRecDepth 10000
set_option autoImplicit false
set_option linter.unusedVariables false
namespace Mine
open PySem PySem.W PyProof.Rows


/-! What a concrete value and an abstract one have to do with each other. -/

structure Wd where
  prog : Program
  w : World
  C : Addr

noncomputable abbrev Wd.md (W : Wd) : Model := model W.prog W.w
noncomputable abbrev Wd.kd (W : Wd) : KeyKind W.prog W.w Str := strKind W.prog W.w

noncomputable abbrev G := Addr → Option Obj

noncomputable def vis (h : Heap) (M : List Addr) : G := fun a => if a ∈ M then none else h.get? a

theorem vis_iff {h : Heap} {M : List Addr} {a : Addr} {o : Obj} : vis h M a = some o ↔ a ∉ M ∧ h.get? a = some o := by
  unfold vis
  split <;> simp_all

noncomputable def GLe (g g' : G) : Prop := ∀ a o, g a = some o → g' a = some o
theorem GLe.refl (g : G) : GLe g g := fun _ _ e => e
theorem GLe.trans {g g' g'' : G} (x : GLe g g') (y : GLe g' g'') : GLe g g'' := fun a o e => y a o (x a o e)

noncomputable abbrev HLe (h h' : Heap) : Prop := ∀ b o, h.get? b = some o → h'.get? b = some o

noncomputable def csl : Str := Str.ofString "comp_select_list"

mutual
inductive Rp (W : Wd) (g : G) : Value → AV → Prop
  | none : Rp W g .none .none
  | bool (b : Bool) : Rp W g (.bool b) (.bool b)
  | int (i : Int) (t : Tok) : Rp W g (.int i t) (.int i)
  | str (s : Str) (t : Tok) : Rp W g (.str s t) (.str s)
  | tup {a : Addr} {n : Nat} {vs : Array Value} {l : List AV} : g a = some { cls := .type "tuple", data := .seq vs n } → RpL W g vs.toList l → Rp W g (.ref a) (.tup l)
  | list {a : Addr} {n : Nat} {vs : Array Value} {l : List AV} : g a = some { cls := .type "list", data := .seq vs n } → RpL W g vs.toList l → Rp W g (.ref a) (.list l)
  | dict {a : Addr} {o : Obj} {kvs : List (Str × Value)} {l : List (Str × AV)} : g a = some o → o.IsDictOf W.kd kvs → (a == sysModules) = false → RpD W g kvs l → Rp W g (.ref a) (.dict l)
  | rng {a : Addr} {n : Int} {t u v : Tok} : g a = some { cls := .type "range", dict := none, data := .fields #[.int 0 t, .int n u, .int 1 v], slots := #[] } → Rp W g (.ref a) (.rng n)
  | items {a d : Addr} {o : Obj} {l : List (Str × AV)} : g a = some o → o.cls = .type "dict_items" → o.data = .fields #[.ref d] → Rp W g (.ref d) (.dict l) → Rp W g (.ref a) (.items l)
  | values {a d : Addr} {o : Obj} {l : List (Str × AV)} : g a = some o → o.cls = .type "dict_values" → o.data = .fields #[.ref d] → Rp W g (.ref d) (.dict l) → Rp W g (.ref a) (.values l)
  | inst {a d : Addr} {n : Nat} {e : DictEntry} {l : AV} : g a = some (instObj W.C d) → g d = some (dictOf [e] n) → e.key.isStr csl = true → Rp W g e.val l → Rp W g (.ref a) (.inst l)
inductive RpL (W : Wd) (g : G) : List Value → List AV → Prop
  | nil : RpL W g [] []
  | cons {v : Value} {vs : List Value} {a : AV} {l : List AV} : Rp W g v a → RpL W g vs l → RpL W g (v :: vs) (a :: l)
inductive RpD (W : Wd) (g : G) : List (Str × Value) → List (Str × AV) → Prop
  | nil : RpD W g [] []
  | cons {k : Str} {v : Value} {vs : List (Str × Value)} {a : AV} {l : List (Str × AV)} : Rp W g v a → RpD W g vs l → RpD W g ((k, v) :: vs) ((k, a) :: l)
end

section
variable {W : Wd} {g g' : G}

mutual
theorem Rp.mono (x : GLe g g') : ∀ {v : Value} {a : AV}, Rp W g v a → Rp W g' v a
  | _, _, .none => .none
  | _, _, .bool b => .bool b
  | _, _, .int i t => .int i t
  | _, _, .str s t => .str s t
  | _, _, .tup h1 h4 => .tup (x _ _ h1) (RpL.mono x h4)
  | _, _, .list h1 h4 => .list (x _ _ h1) (RpL.mono x h4)
  | _, _, .dict h1 h2 h3 h4 => .dict (x _ _ h1) h2 h3 (RpD.mono x h4)
  | _, _, .rng h => .rng (x _ _ h)
  | _, _, .items h1 h2 h3 h4 => .items (x _ _ h1) h2 h3 (Rp.mono x h4)
  | _, _, .values h1 h2 h3 h4 => .values (x _ _ h1) h2 h3 (Rp.mono x h4)
  | _, _, .inst h1 h2 h3 h4 => .inst (x _ _ h1) (x _ _ h2) h3 (Rp.mono x h4)
theorem RpL.mono (x : GLe g g') : ∀ {v : List Value} {a : List AV}, RpL W g v a → RpL W g' v a
  | _, _, .nil => .nil
  | _, _, .cons h1 h2 => .cons (Rp.mono x h1) (RpL.mono x h2)
theorem RpD.mono (x : GLe g g') : ∀ {v : List (Str × Value)} {a : List (Str × AV)}, RpD W g v a → RpD W g' v a
  | _, _, .nil => .nil
  | _, _, .cons h1 h2 => .cons (Rp.mono x h1) (RpD.mono x h2)
end

theorem RpL.length : ∀ {vs : List Value} {l : List AV}, RpL W g vs l → vs.length = l.length
  | _, _, .nil => rfl
  | _, _, .cons _ h => by simp [RpL.length h]
theorem RpL.get : ∀ {vs : List Value} {l : List AV}, RpL W g vs l → ∀ {i : Nat} {a : AV}, l[i]? = some a → ∃ v, vs[i]? = some v ∧ Rp W g v a
  | _, _, .nil, _, _, e => by simp at e
  | _, _, .cons h1 _, 0, _, e => by simp at e; subst e; exact ⟨_, rfl, h1⟩
  | _, _, .cons _ h2, i + 1, _, e => by
    obtain ⟨v, hv, r⟩ := RpL.get h2 (i := i) (by simpa using e)
    exact ⟨v, by simpa using hv, r⟩
theorem RpL.get' : ∀ {vs : List Value} {l : List AV}, RpL W g vs l → ∀ {i : Nat} {v : Value}, vs[i]? = some v → ∃ a, l[i]? = some a ∧ Rp W g v a
  | _, _, .nil, _, _, e => by simp at e
  | _, _, .cons h1 _, 0, _, e => by simp at e; subst e; exact ⟨_, rfl, h1⟩
  | _, _, .cons _ h2, i + 1, _, e => by
    obtain ⟨v, hv, r⟩ := RpL.get' h2 (i := i) (by simpa using e)
    exact ⟨v, by simpa using hv, r⟩
theorem RpL.append : ∀ {vs us : List Value} {l m : List AV}, RpL W g vs l → RpL W g us m → RpL W g (vs ++ us) (l ++ m)
  | _, _, _, _, .nil, h => h
  | _, _, _, _, .cons h1 h2, h => .cons h1 (RpL.append h2 h)
theorem RpL.snoc {vs : List Value} {v : Value} {l : List AV} {a : AV} (h : RpL W g vs l) (h1 : Rp W g v a) : RpL W g (vs ++ [v]) (l ++ [a]) := h.append (.cons h1 .nil)
theorem RpL.take : ∀ {vs : List Value} {l : List AV} (n : Nat), RpL W g vs l → RpL W g (vs.take n) (l.take n)
  | _, _, 0, _ => by simpa using RpL.nil
  | _, _, _ + 1, .nil => by simpa using RpL.nil
  | _, _, n + 1, .cons h1 h2 => by simpa using RpL.cons h1 (RpL.take n h2)
theorem RpL.drop : ∀ {vs : List Value} {l : List AV} (n : Nat), RpL W g vs l → RpL W g (vs.drop n) (l.drop n)
  | _, _, 0, h => by simpa using h
  | _, _, _ + 1, .nil => by simpa using RpL.nil
  | _, _, n + 1, .cons _ h2 => by simpa using RpL.drop n h2
theorem RpL.set : ∀ {vs : List Value} {l : List AV} (n : Nat) {v : Value} {a : AV}, RpL W g vs l → Rp W g v a → RpL W g (vs.set n v) (l.set n a)
  | _, _, _, _, _, .nil, _ => by simpa using RpL.nil
  | _, _, 0, _, _, .cons _ h2, h => by simpa using RpL.cons h h2
  | _, _, n + 1, _, _, .cons h1 h2, h => by simpa using RpL.cons h1 (RpL.set n h2 h)

theorem RpD.keys : ∀ {vs : List (Str × Value)} {l : List (Str × AV)}, RpD W g vs l → vs.map (·.1) = l.map (·.1)
  | _, _, .nil => rfl
  | _, _, .cons _ h => by simp [RpD.keys h]
theorem RpD.length {vs : List (Str × Value)} {l : List (Str × AV)} (h : RpD W g vs l) : vs.length = l.length := by
  have := congrArg List.length h.keys
  simpa using this
theorem RpD.valueAt : ∀ {vs : List (Str × Value)} {l : List (Str × AV)} (k : Str), RpD W g vs l →
    (∃ v a, PySem.valueAt vs k = some v ∧ l.lookup k = some a ∧ Rp W g v a) ∨ (PySem.valueAt vs k = none ∧ l.lookup k = none)
  | _, _, k, .nil => .inr ⟨rfl, rfl⟩
  | (k', v) :: vs, (_, a) :: l, k, .cons h1 h2 => by
    by_cases hk : k' = k
    · subst hk
      exact .inl ⟨v, a, by simp [PySem.valueAt], by simp, h1⟩
    · have e1 : PySem.valueAt ((k', v) :: vs) k = PySem.valueAt vs k := by simp [PySem.valueAt, hk]
      have e2 : ((k', a) :: l).lookup k = l.lookup k := by
        rw [List.lookup_cons]
        have : (k == k') = false := by simpa using fun e => hk e.symm
        rw [this]
      rw [e1, e2]
      exact RpD.valueAt k h2
theorem RpD.vals : ∀ {vs : List (Str × Value)} {l : List (Str × AV)}, RpD W g vs l → RpL W g (vs.map (·.2)) (l.map (·.2))
  | _, _, .nil => .nil
  | _, _, .cons h1 h2 => .cons h1 (RpD.vals h2)

theorem put_of_not {α : Type} : ∀ {l : List (Str × α)} {k : Str} (v : α), k ∉ l.map (·.1) → put l k v = l ++ [(k, v)]
  | [], _, _, _ => rfl
  | (y, u) :: r, k, v, h => by
    have h1 : ¬ y = k := fun e => h (by simp [e])
    have h2 : k ∉ r.map (·.1) := fun e => h (by simp at e ⊢; right; exact e)
    simp [put, h1, put_of_not v h2]
theorem RpD.append : ∀ {vs us : List (Str × Value)} {l m : List (Str × AV)}, RpD W g vs l → RpD W g us m → RpD W g (vs ++ us) (l ++ m)
  | _, _, _, _, .nil, h => h
  | _, _, _, _, .cons h1 h2, h => .cons h1 (RpD.append h2 h)
theorem map_same {vs : List (Str × Value)} {k : Str} {v : Value} (h : k ∉ vs.map (·.1)) : vs.map (fun kv => if kv.1 = k then (kv.1, v) else kv) = vs := by
  induction vs with
  | nil => rfl
  | cons p r ih =>
    have h1 : ¬ p.1 = k := fun e => h (by simp [e])
    have h2 : k ∉ r.map (·.1) := fun e => h (by simp at e ⊢; right; exact e)
    simp [h1, ih h2]
theorem RpD.put : ∀ {vs : List (Str × Value)} {l : List (Str × AV)} {k : Str} {v : Value} {a : AV}, RpD W g vs l → (vs.map (·.1)).Nodup → Rp W g v a → RpD W g (stored vs k v) (Mine.put l k a)
  | _, _, k, v, a, .nil, _, h => by simpa [stored, Mine.put] using RpD.cons h .nil
  | (k', v') :: vs, (_, a') :: l, k, v, a, .cons h1 h2, hn, h => by
    have hn' : (vs.map (·.1)).Nodup := (List.nodup_cons.mp hn).2
    have hk' : k' ∉ vs.map (·.1) := (List.nodup_cons.mp hn).1
    by_cases hk : k' = k
    · subst hk
      have e1 : stored ((k', v') :: vs) k' v = (k', v) :: vs := by
        simp only [stored, List.any_cons, decide_true, Bool.true_or, if_true, List.map_cons]
        rw [map_same hk']
      rw [e1]
      simpa [Mine.put] using RpD.cons h h2
    · have ih := RpD.put (k := k) h2 hn' h
      have e1 : stored ((k', v') :: vs) k v = (k', v') :: stored vs k v := by
        unfold stored
        simp only [List.any_cons, hk, decide_false, Bool.false_or, List.map_cons, if_false]
        split <;> rfl
      rw [e1]
      simpa [Mine.put, hk] using RpD.cons h1 ih
end

/-! the heaps -/

noncomputable def Moves (m : List Addr) (s s' : Shared) : Prop := ∃ h' tk, s' = { s with heap := h', toks := tk } ∧ ∀ b o, b ∉ m → s.heap.get? b = some o → h'.get? b = some o

theorem Moves.refl (m : List Addr) (s : Shared) : Moves m s s := ⟨s.heap, s.toks, rfl, fun _ _ _ e => e⟩
theorem Moves.trans {m : List Addr} {s s' s'' : Shared} (x : Moves m s s') (y : Moves m s' s'') : Moves m s s'' := by
  obtain ⟨h, t, rfl, k⟩ := x
  obtain ⟨h', t', rfl, k'⟩ := y
  exact ⟨h', t', rfl, fun b o hb e => k' b o hb (k b o hb e)⟩
theorem Moves.get {m : List Addr} {s s' : Shared} (x : Moves m s s') {b : Addr} {o : Obj} (hb : b ∉ m) (e : s.heap.get? b = some o) : s'.heap.get? b = some o := by
  obtain ⟨h, t, rfl, k⟩ := x
  exact k b o hb e
theorem Moves.mono {m m' : List Addr} {s s' : Shared} (x : Moves m s s') (hm : ∀ a ∈ m, a ∈ m' ∨ s.heap.get? a = none) : Moves m' s s' := by
  obtain ⟨h, t, rfl, k⟩ := x
  refine ⟨h, t, rfl, fun b o hb e => k b o (fun q => ?_) e⟩
  rcases hm b q with r | r
  · exact hb r
  · rw [r] at e; (first | exact none_ne e | obtain rfl := Option.some.inj e | cases e)
/-- one more run behind it, that turns what was not there at first -/
theorem Moves.next {m m' : List Addr} {s s' s'' : Shared} (x : Moves m s s') (y : Moves m' s' s'') (hm : ∀ a ∈ m', a ∈ m ∨ s.heap.get? a = none) : Moves m s s'' := by
  obtain ⟨h, t, rfl, k⟩ := x
  obtain ⟨h', t', rfl, k'⟩ := y
  refine ⟨h', t', rfl, fun b o hb e => k' b o (fun q => ?_) (k b o hb e)⟩
  rcases hm b q with r | r
  · exact hb r
  · rw [r] at e; (first | exact none_ne e | obtain rfl := Option.some.inj e | cases e)

noncomputable abbrev Kept (s s' : Shared) : Prop := Moves [] s s'
theorem Moves.hle {s s' : Shared} (x : Kept s s') : HLe s.heap s'.heap := fun _ _ e => x.get (by simp) e
theorem Moves.of_kept {m : List Addr} {s s' : Shared} (x : Kept s s') : Moves m s s' := x.mono fun _ h => nomatch h
theorem kept_heap {s : Shared} {h : Heap} {t : Nat} (x : HLe s.heap h) : Kept s { s with heap := h, toks := t } := ⟨h, t, rfl, fun b o _ e => x b o e⟩
theorem kept_toks {s : Shared} (t : Nat) : Kept s { s with toks := t } := ⟨s.heap, t, rfl, fun _ _ _ e => e⟩
theorem kept_push {s : Shared} (o : Obj) : Kept s { s with heap := s.heap.push o } := ⟨_, s.toks, rfl, fun _ _ _ e => Heap.get?_push_of_some _ e⟩
theorem moves_heap {m : List Addr} {s : Shared} {h : Heap} {t : Nat} (x : ∀ b o, b ∉ m → s.heap.get? b = some o → h.get? b = some o) : Moves m s { s with heap := h, toks := t } := ⟨h, t, rfl, x⟩
theorem fresh_none (h : Heap) (a : Addr) (ha : h.objs.size ≤ a) : h.get? a = none := by
  cases e : h.get? a with
  | none => rfl
  | some o => exact absurd (Heap.lt_size e) (Nat.not_lt.mpr ha)

theorem gle_vis {h h' : Heap} {M M' : List Addr} (k : ∀ b o, b ∉ M → h.get? b = some o → h'.get? b = some o) (hm : ∀ a ∈ M', a ∈ M ∨ h.get? a = none) : GLe (vis h M) (vis h' M') := fun a o e => by
  obtain ⟨h1, h2⟩ := vis_iff.mp e
  refine vis_iff.mpr ⟨fun q => ?_, k a o h1 h2⟩
  rcases hm a q with r | r
  · exact h1 r
  · rw [r] at h2; (first | exact none_ne h2 | obtain rfl := Option.some.inj h2 | cases h2)
theorem gle_kept {s s' : Shared} {M : List Addr} (x : Kept s s') : GLe (vis s.heap M) (vis s'.heap M) := gle_vis (fun _ _ _ e => x.get (by simp) e) fun _ q => .inl q
theorem gle_moves {s s' : Shared} {m M : List Addr} (x : Moves m s s') (hm : ∀ a ∈ m, a ∈ M) : GLe (vis s.heap M) (vis s'.heap M) := gle_vis (fun _ _ q e => x.get (fun r => q (hm _ r)) e) fun _ q => .inl q
theorem gle_less {h : Heap} {M M' : List Addr} (hm : ∀ a ∈ M', a ∈ M) : GLe (vis h M) (vis h M') := gle_vis (fun _ _ _ e => e) fun _ q => .inl (hm _ q)

/-! containers that may be read: their own object may be hidden -/

section
variable (W : Wd) (h : Heap) (g : G)
noncomputable def LstAt (a : Addr) (l : List AV) : Prop := ∃ n vs, h.get? a = some { cls := .type "list", data := .seq vs n } ∧ RpL W g vs.toList l
noncomputable def DctAt (a : Addr) (l : List (Str × AV)) : Prop := ∃ kvs, h.DictOf W.kd a kvs ∧ (a == sysModules) = false ∧ RpD W g kvs l
noncomputable def TupAt (a : Addr) (l : List AV) : Prop := ∃ n vs, h.get? a = some { cls := .type "tuple", data := .seq vs n } ∧ RpL W g vs.toList l
/-- an own container and what it holds -/
noncomputable def OwnAt (a : Addr) : AV → Prop
  | .list l => LstAt W h g a l
  | .dict l => DctAt W h g a l
  | _ => False
end

noncomputable def ARel (W : Wd) (h : Heap) (M : List Addr) (v : Value) (r : AR) : Prop :=
  match r.own with
  | false => Rp W (vis h M) v r.v
  | true => ∃ a, v = .ref a ∧ a ∈ M ∧ OwnAt W h (vis h M) a r.v

section
variable {W : Wd} {h h' : Heap} {M M' : List Addr} {v : Value} {g g' : G}

theorem LstAt.mono {a : Addr} {l : List AV} (x : LstAt W h g a l) (k : ∀ o, h.get? a = some o → h'.get? a = some o) (y : GLe g g') : LstAt W h' g' a l :=
  let ⟨n, vs, e, r⟩ := x; ⟨n, vs, k _ e, r.mono y⟩
theorem DctAt.mono {a : Addr} {l : List (Str × AV)} (x : DctAt W h g a l) (k : ∀ o, h.get? a = some o → h'.get? a = some o) (y : GLe g g') : DctAt W h' g' a l :=
  let ⟨kvs, ⟨o, es, ep, ho, q⟩, hs, r⟩ := x; ⟨kvs, ⟨o, es, ep, k _ ho, q⟩, hs, r.mono y⟩
theorem OwnAt.mono {a : Addr} {c : AV} (x : OwnAt W h g a c) (k : ∀ o, h.get? a = some o → h'.get? a = some o) (y : GLe g g') : OwnAt W h' g' a c := by
  cases c with
  | list l => exact LstAt.mono x k y
  | dict l => exact DctAt.mono x k y
  | _ => exact x.elim
theorem OwnAt.there {a : Addr} {c : AV} (x : OwnAt W h g a c) : ∃ o, h.get? a = some o := by
  cases c with
  | list l => obtain ⟨n, vs, e, r⟩ := x; exact ⟨_, e⟩
  | dict l => obtain ⟨kvs, ⟨o, es, ep, ho, q⟩, hs, r⟩ := x; exact ⟨_, ho⟩
  | _ => exact x.elim

theorem ARel.kept {s s' : Shared} {r : AR} (x : ARel W s.heap M v r) (k : Kept s s') : ARel W s'.heap M v r := by
  obtain ⟨av, b⟩ := r
  cases b with
  | false => exact Rp.mono (gle_kept k) x
  | true => obtain ⟨a, e, hm, o⟩ := x; exact ⟨a, e, hm, o.mono (fun _ q => k.get (by simp) q) (gle_kept k)⟩

theorem ARel.lst {l : List AV} {b : Bool} (x : ARel W h M v ⟨.list l, b⟩) : ∃ a, v = .ref a ∧ LstAt W h (vis h M) a l := by
  cases b with
  | false => cases x with | list e r => exact ⟨_, rfl, _, _, (vis_iff.mp e).2, r⟩
  | true => obtain ⟨a, e, hm, o⟩ := x; exact ⟨a, e, o⟩
theorem ARel.dct {l : List (Str × AV)} {b : Bool} (x : ARel W h M v ⟨.dict l, b⟩) : ∃ a, v = .ref a ∧ DctAt W h (vis h M) a l := by
  cases b with
  | false => cases x with | dict e i s r => exact ⟨_, rfl, _, Heap.dictOf_iff.mpr ⟨_, (vis_iff.mp e).2, i⟩, s, r⟩
  | true => obtain ⟨a, e, hm, o⟩ := x; exact ⟨a, e, o⟩
theorem ARel.tup {l : List AV} {b : Bool} (x : ARel W h M v ⟨.tup l, b⟩) : ∃ a, v = .ref a ∧ TupAt W h (vis h M) a l := by
  cases b with
  | false => cases x with | tup e r => exact ⟨_, rfl, _, _, (vis_iff.mp e).2, r⟩
  | true => obtain ⟨a, e, hm, o⟩ := x; exact o.elim
theorem ARel.int {i : Int} {b : Bool} (x : ARel W h M v ⟨.int i, b⟩) : ∃ t, v = .int i t := by
  cases b with
  | false => cases x with | int _ t => exact ⟨t, rfl⟩
  | true => obtain ⟨a, e, hm, o⟩ := x; exact o.elim
theorem ARel.str {i : Str} {b : Bool} (x : ARel W h M v ⟨.str i, b⟩) : ∃ t, v = .str i t := by
  cases b with
  | false => cases x with | str _ t => exact ⟨t, rfl⟩
  | true => obtain ⟨a, e, hm, o⟩ := x; exact o.elim
theorem ARel.bool {i : Bool} {b : Bool} (x : ARel W h M v ⟨.bool i, b⟩) : v = .bool i := by
  cases b with
  | false => cases x with | bool _ => rfl
  | true => obtain ⟨a, e, hm, o⟩ := x; exact o.elim
theorem ARel.int' {a : AR} {i : Int} (x : ARel W h M v a) (e : asInt a.v = some i) : ∃ t, v = .int i t := by
  obtain ⟨a, b⟩ := a; obtain rfl : a = _ := asInt_inv e; exact x.int
theorem ARel.str' {a : AR} {i : Str} (x : ARel W h M v a) (e : asStr a.v = some i) : ∃ t, v = .str i t := by
  obtain ⟨a, b⟩ := a; obtain rfl : a = _ := asStr_inv e; exact x.str
theorem ARel.bool' {a : AR} {i : Bool} (x : ARel W h M v a) (e : asBool a.v = some i) : v = .bool i := by
  obtain ⟨a, b⟩ := a; obtain rfl : a = _ := asBool_inv e; exact x.bool
theorem ARel.lst' {a : AR} {l : List AV} (x : ARel W h M v a) (e : asList a.v = some l) : ∃ a, v = .ref a ∧ LstAt W h (vis h M) a l := by
  obtain ⟨a, b⟩ := a; obtain rfl : a = _ := asList_inv e; exact x.lst
theorem ARel.dct' {a : AR} {l : List (Str × AV)} (x : ARel W h M v a) (e : asDict a.v = some l) : ∃ a, v = .ref a ∧ DctAt W h (vis h M) a l := by
  obtain ⟨a, b⟩ := a; obtain rfl : a = _ := asDict_inv e; exact x.dct
theorem ARel.tup' {a : AR} {l : List AV} (x : ARel W h M v a) (e : asTup a.v = some l) : ∃ a, v = .ref a ∧ TupAt W h (vis h M) a l := by
  obtain ⟨a, b⟩ := a; obtain rfl : a = _ := asTup_inv e; exact x.tup
theorem ARel.clean' {a : AR} {w : AV} (x : ARel W h M v a) (e : Mine.clean a = some w) : Rp W (vis h M) v w := by
  obtain ⟨w', b⟩ := a
  cases b with
  | false => exact Option.some.inj e ▸ x
  | true => exact none_ne e
theorem ARel.clean {a : AV} (x : ARel W h M v ⟨a, false⟩) : Rp W (vis h M) v a := x
end

end Mine

end

/-! part Ops1 -/
section
set_option maxRecDepth 10000
set_option autoImplicit false
set_option linter.unusedVariables false
namespace Mine
open PySem PySem.W PyProof.Rows

theorem line_le {n : Nat} (h : n ≤ 4096) : n ≤ sizeLine := by rw [sizeLine_eq]; lia

structure AOk (A : Around) (n : Nat) : Prop where
  handled : A.handled = none
  depth : A.depth + n < recursionLimit
  units : A.units + 8 * n + 600 < cLine

noncomputable def Gives' (W : Wd) (M : List Addr) (s : Shared) (c : AV) : Value → Shared → Prop := fun v s' => Kept s s' ∧ Rp W (vis s'.heap M) v c

noncomputable def Bd (M : List Addr) (h : Heap) : Prop := ∀ a ∈ M, ∃ o, h.get? a = some o
theorem Bd.kept {M : List Addr} {s s' : Shared} (x : Bd M s.heap) (k : Kept s s') : Bd M s'.heap := fun a ha => let ⟨o, e⟩ := x a ha; ⟨o, k.get (by simp) e⟩
theorem Bd.push {M : List Addr} {h : Heap} (x : Bd M h) (o : Obj) (hf : o.isFreed = false := by rfl) : vis (h.push o) M h.objs.size = some o :=
  vis_iff.mpr ⟨fun q => let ⟨_, e⟩ := x _ q; Nat.lt_irrefl _ (Heap.lt_size e), Heap.get?_push_size _ hf⟩
theorem Bd.new {M : List Addr} {h : Heap} (x : Bd M h) : h.objs.size ∉ M := fun q => let ⟨_, e⟩ := x _ q; Nat.lt_irrefl _ (Heap.lt_size e)

section
variable {W : Wd} {A : Around} {E : Value → Shared → Prop} {s : Shared} {M : List Addr} {va vb : Value}

theorem gInt {i : Int} {t tk : Tok} : Gives' W M s (.int i) (.int i t) { s with toks := tk } := ⟨kept_toks _, .int _ _⟩
theorem gBool {b : Bool} : Gives' W M s (.bool b) (.bool b) s := ⟨Moves.refl _ _, .bool _⟩
theorem gStr {i : Str} {t tk : Tok} : Gives' W M s (.str i) (.str i t) { s with toks := tk } := ⟨kept_toks _, .str _ _⟩

theorem rp_kept {s s' : Shared} {v : Value} {a : AV} (h : Rp W (vis s.heap M) v a) (k : Kept s s') : Rp W (vis s'.heap M) v a := h.mono (gle_kept k)
theorem rpl_kept {s s' : Shared} {v : List Value} {a : List AV} (h : RpL W (vis s.heap M) v a) (k : Kept s s') : RpL W (vis s'.heap M) v a := h.mono (gle_kept k)

/-- a new list of what stands -/
theorem gList (hb : Bd M s.heap) {vs : List Value} {l : List AV} (h : RpL W (vis s.heap M) vs l) (tk : Nat) :
    Gives' W M s (.list l) (.ref s.heap.objs.size) { s with heap := s.heap.push { cls := .type "list", data := .seq vs.toArray }, toks := tk } := by
  have k : Kept s { s with heap := s.heap.push { cls := .type "list", data := .seq vs.toArray }, toks := tk } := (kept_push _).trans (kept_toks _)
  exact ⟨k, .list (hb.push _) (by simpa using rpl_kept h k)⟩
theorem gTup (hb : Bd M s.heap) {vs : List Value} {l : List AV} (h : RpL W (vis s.heap M) vs l) (tk : Nat) :
    Gives' W M s (.tup l) (.ref s.heap.objs.size) { s with heap := s.heap.push { cls := .type "tuple", data := .seq vs.toArray }, toks := tk } := by
  have k : Kept s { s with heap := s.heap.push { cls := .type "tuple", data := .seq vs.toArray }, toks := tk } := (kept_push _).trans (kept_toks _)
  exact ⟨k, .tup (hb.push _) (by simpa using rpl_kept h k)⟩

theorem LstAt.isList {h : Heap} {g : G} {a : Addr} {l : List AV} (x : LstAt W h g a l) : ∃ vs, h.IsList a vs ∧ RpL W g vs.toList l :=
  let ⟨n, vs, e, r⟩ := x; ⟨vs, ⟨_, e, rfl, n, rfl⟩, r⟩

theorem small_spec {i : Int} (h : small i = true) : 0 ≤ i ∧ i < 1000000 := by
  simpa [small] using h

theorem add_lst (hb : Bd M s.heap) {a b : Addr} {l m : List AV} (x : LstAt W s.heap (vis s.heap M) a l) (y : LstAt W s.heap (vis s.heap M) b m) (hl : l.length + m.length ≤ 4096) :
    wpAny W.md A (binaryOp .Add (.ref a) (.ref b)) (Gives' W M s (.list (l ++ m))) E s := by
  obtain ⟨n, vs, ho, r⟩ := x
  obtain ⟨n', us, ho', r'⟩ := y
  have e : vs ++ us = (vs.toList ++ us.toList).toArray := by simp
  have hsz : vs.size + us.size ≤ sizeLine := by
    have h1 := r.length
    have h2 := r'.length
    simp only [Array.length_toList] at h1 h2
    exact line_le (by lia)
  refine concat_meets ⟨_, ho, rfl⟩ ⟨_, ho', rfl⟩ noFill_list_add seq_list_add PySem.F.slot_list_add PySem.F.entry_list_add (PySem.F.args_list_add_2 _ _) (list_addW a b vs us n n' none none #[] #[] hsz) ⟨ho, ho', ?_⟩
  rw [e]
  exact gList hb (r.append r') _

theorem addA_ok (hb : Bd M s.heap) {a b : AR} {c : AV} (e : addA a.v b.v = some c) (ra : ARel W s.heap M va a) (rb : ARel W s.heap M vb b) :
    wpAny W.md A (binaryOp .Add va vb) (Gives' W M s c) E s := by
  obtain ⟨a, oa⟩ := a
  cases a with
  | int x =>
    refine mpd e fun y h1 h2 => ?_
    subst h2
    obtain ⟨t, rfl⟩ := ra.int; obtain ⟨u, rfl⟩ := rb.int' h1
    exact P.add_int gInt
  | str x =>
    refine bnd e fun y h1 h2 => ifs h2 fun h3 h4 => ?_
    obtain rfl := Option.some.inj h4
    obtain ⟨t, rfl⟩ := ra.str; obtain ⟨u, rfl⟩ := rb.str' h1
    exact SB.add (fun _ _ => gStr) (line_le h3)
  | list x =>
    refine bnd e fun y h1 h2 => ifs h2 fun h3 h4 => ?_
    obtain rfl := Option.some.inj h4
    obtain ⟨x, rfl, hx⟩ := ra.lst; obtain ⟨y, rfl, hy⟩ := rb.lst' h1
    exact add_lst hb hx hy h3
  | _ => exact none_ne e
theorem i2_ok {f : Int → Int → Option AV} {a b : AR} {c : AV} (e : i2 f a.v b.v = some c) (ra : ARel W s.heap M va a) (rb : ARel W s.heap M vb b) {P : Prop}
    (k : ∀ x y t u, va = .int x t → vb = .int y u → f x y = some c → P) : P := by
  refine bnd e fun x h1 e => bnd e fun y h2 e => ?_
  obtain ⟨t, ha⟩ := ra.int' h1
  obtain ⟨u, hb⟩ := rb.int' h2
  exact k x y t u ha hb e

theorem binA_ok (hb : Bd M s.heap) {op : Operator} {a b : AR} {c : AV} (e : binA op a.v b.v = some c) (ra : ARel W s.heap M va a) (rb : ARel W s.heap M vb b) :
    wpAny W.md A (binaryOp op va vb) (Gives' W M s c) E s := by
  cases op with
  | Add => exact addA_ok hb e ra rb
  | Sub =>
    refine i2_ok e ra rb fun x y t u ha hb e => ?_
    subst ha; subst hb; obtain rfl := Option.some.inj e
    exact P.sub_int gInt
  | Mult =>
    refine i2_ok e ra rb fun x y t u ha hb e => ifs e fun hs e => ?_
    subst ha; subst hb; obtain rfl := Option.some.inj e
    exact P.mul_int gInt (IntMulOk.of_left (intBits_le_64 (by have := small_spec hs.1; lia) (by have := small_spec hs.1; lia)))
  | FloorDiv =>
    refine i2_ok e ra rb fun x y t u ha hb e => ifs e fun hs e => ?_
    subst ha; subst hb; obtain rfl := Option.some.inj e
    exact PyProof.Rows.floordiv_int hs.2.2 gInt (Or.inl (PyProof.noPylong_small (by have := small_spec hs.1; have := small_spec hs.2.1; lia)))
  | Mod =>
    refine i2_ok e ra rb fun x y t u ha hb e => ifs e fun hs e => ?_
    subst ha; subst hb; obtain rfl := Option.some.inj e
    exact PyProof.Rows.mod_int' hs gInt
  | RShift =>
    refine i2_ok e ra rb fun x y t u ha hb e => ifs e fun hs e => ?_
    subst ha; subst hb; obtain rfl := Option.some.inj e
    obtain ⟨h1, rfl⟩ := hs
    exact wpAny_rshift1_int (small_spec h1).1 gInt
  | _ => exact none_ne e

theorem truthA_ok {a : AR} {b : Bool} (e : truthA a.v = some b) (ra : ARel W s.heap M va a) : wpAny W.md A (truthy va) (fun c s' => c = b ∧ Kept s s') E s := by
  obtain ⟨a, oa⟩ := a
  cases a with
  | bool x =>
    cases ra.bool
    exact wpAny_truthy_bool ⟨Option.some.inj e, Moves.refl _ _⟩
  | list l =>
    refine ifs e fun h1 h2 => ?_
    obtain rfl := Option.some.inj h2
    obtain ⟨x, rfl, hx⟩ := ra.lst
    obtain ⟨vs, hl, r⟩ := hx.isList
    have hlen := r.length
    simp only [Array.length_toList] at hlen
    refine wpAny_truthy_list hl (by lia) ⟨?_, kept_toks _⟩
    cases l with
    | nil => simp at hlen; simp [hlen]
    | cons => simp at hlen; simp [Array.isEmpty, hlen]
  | str x =>
    refine ifs e fun h1 h2 => ?_
    obtain rfl := Option.some.inj h2
    obtain ⟨t, rfl⟩ := ra.str
    refine P.truthy_str (by lia) ⟨?_, kept_toks _⟩
    rw [Bool.eq_iff_iff, bne_iff_ne, decide_eq_true_eq]
    lia
  | _ => exact none_ne e

theorem not_ok {i : Int} {a : AR} (e : asInt a.v = some i) (ra : ARel W s.heap M va a) : wpAny W.md A (unaryOp .USub va) (Gives' W M s (.int (-i))) E s := by
  obtain ⟨t, rfl⟩ := ra.int' e
  exact P.neg_int gInt
end

end Mine

end

/-! part Ops2 -/
section
set_option maxRecDepth 10000
set_option autoImplicit false
set_option linter.unusedVariables false
namespace Mine
open PySem PySem.W PyProof.Rows PySem.SeqAt
open AutoSeq1 (wpAny_loadPart')

/-! tuples compared -/

noncomputable def RcO (A : Around) (s : Shared) (op : CmpOp) (x y : Value) (c : Bool) : Prop :=
  ∀ (prog : Program) (w : World) (E : Value → Shared → Prop) (Q : Value → Shared → Prop), Q (.bool c) s → wpAny (model prog w) A (richCompare op x y) Q E s

inductive Lex (A : Around) (s : Shared) (op : CmpOp) (fin : Bool) : List (Value × Value) → Bool → Prop
  | nil : Lex A s op fin [] fin
  | eq {x y : Value} {r : List (Value × Value)} {b : Bool} : EqAt A s x y true → Lex A s op fin r b → Lex A s op fin ((x, y) :: r) b
  | ne {x y : Value} {r : List (Value × Value)} {b : Bool} : EqAt A s x y false → RcO A s op x y b → Lex A s op fin ((x, y) :: r) b

theorem tuple_ltL (l b : Addr) (items items2 : Array Value) (n n2 : Nat) (dd dd2 : Option Addr) (sl sl2 : Array (Option Value)) (c : Bool) :
    Meets (Builtin.«tuple.__lt__» ⟨[.ref l, .ref b], []⟩)
      (fun A R s => s.heap.get? l = some { cls := .type "tuple", dict := dd, data := .seq items n, slots := sl } ∧ s.heap.get? b = some { cls := .type "tuple", dict := dd2, data := .seq items2 n2, slots := sl2 } ∧
        Lex A.in1 s .Lt (decide (items.size < items2.size)) (items.toList.zip items2.toList) c ∧ R (.ok (.ret (.bool c))) s) :=
  .of_wp fun prog w A R s h => by
    obtain ⟨hp, g, d, tk, os⟩ := s; obtain ⟨hl, hb, he, h⟩ := h
    have f2 := AutoSeq1.sub_tuple_tuple
    wp_walk using wpAny_loadPart' hl, wpAny_loadPart' hb, wpAny_forIn_list _ (fun rest b s' => b.1 = none ∧ s' = ⟨hp, g, d, tk, os⟩ ∧ Lex A.in1 ⟨hp, g, d, tk, os⟩ .Lt (decide (items.size < items2.size)) rest c) _
    case turn =>
      rintro ⟨y, x⟩ rest b s' ⟨hb', rfl, hx⟩
      cases hx with
      | eq e1 e2 =>
        refine wpAny_bind (e1 prog w _ _ ?_)
        wp_walk
        exact ⟨rfl, rfl, e2⟩
      | ne e1 e2 =>
        refine wpAny_bind (e1 prog w _ _ ?_)
        rw [if_pos (by rfl)]
        refine wpAny_bind (wpAny_rule (wpAny_bind (e2 prog w _ _ ?_)))
        wp_walk
        exact ⟨_, rfl, h⟩
    case fin =>
      rintro ⟨b1, b2⟩ s' ⟨hb', rfl, hx⟩
      simp only at hb'
      subst hb'
      cases hx
      wp_walk
      exact ⟨_, rfl, by simpa [Builtin.Tuple.tupleCompareSizes] using h⟩
    case h =>
      exact ⟨rfl, rfl, he⟩

theorem tuple_gtL (l b : Addr) (items items2 : Array Value) (n n2 : Nat) (dd dd2 : Option Addr) (sl sl2 : Array (Option Value)) (c : Bool) :
    Meets (Builtin.«tuple.__gt__» ⟨[.ref l, .ref b], []⟩)
      (fun A R s => s.heap.get? l = some { cls := .type "tuple", dict := dd, data := .seq items n, slots := sl } ∧ s.heap.get? b = some { cls := .type "tuple", dict := dd2, data := .seq items2 n2, slots := sl2 } ∧
        Lex A.in1 s .Gt (decide (items.size > items2.size)) (items.toList.zip items2.toList) c ∧ R (.ok (.ret (.bool c))) s) :=
  .of_wp fun prog w A R s h => by
    obtain ⟨hp, g, d, tk, os⟩ := s; obtain ⟨hl, hb, he, h⟩ := h
    have f2 := AutoSeq1.sub_tuple_tuple
    wp_walk using wpAny_loadPart' hl, wpAny_loadPart' hb, wpAny_forIn_list _ (fun rest b s' => b.1 = none ∧ s' = ⟨hp, g, d, tk, os⟩ ∧ Lex A.in1 ⟨hp, g, d, tk, os⟩ .Gt (decide (items.size > items2.size)) rest c) _
    case turn =>
      rintro ⟨y, x⟩ rest b s' ⟨hb', rfl, hx⟩
      cases hx with
      | eq e1 e2 =>
        refine wpAny_bind (e1 prog w _ _ ?_)
        wp_walk
        exact ⟨rfl, rfl, e2⟩
      | ne e1 e2 =>
        refine wpAny_bind (e1 prog w _ _ ?_)
        rw [if_pos (by rfl)]
        refine wpAny_bind (wpAny_rule (wpAny_bind (e2 prog w _ _ ?_)))
        wp_walk
        exact ⟨_, rfl, h⟩
    case fin =>
      rintro ⟨b1, b2⟩ s' ⟨hb', rfl, hx⟩
      simp only at hb'
      subst hb'
      cases hx
      wp_walk
      exact ⟨_, rfl, by simpa [Builtin.Tuple.tupleCompareSizes] using h⟩
    case h =>
      exact ⟨rfl, rfl, he⟩

section
variable {A : Around} {s : Shared} {W : Wd} {g : G} {M : List Addr}

theorem eqAt_int (a b : Int) (t u : Tok) : EqAt A s (.int a t) (.int b u) (decide (a = b)) := fun prog w E Q hq => wpAny_eqBool_int (by rw [show (a == b) = decide (a = b) from rfl]; exact hq)
theorem eqAt_str (a b : Str) (t u : Tok) : EqAt A s (.str a t) (.str b u) (decide (a = b)) := fun prog w E Q hq => wpAny_eqBool_str hq
theorem rc_lt_int (a b : Int) (t u : Tok) : RcO A s .Lt (.int a t) (.int b u) (decide (a < b)) := fun prog w E Q hq => P.lt_int hq
theorem rc_gt_int (a b : Int) (t u : Tok) : RcO A s .Gt (.int a t) (.int b u) (decide (b < a)) := fun prog w E Q hq => P.gt_int hq
theorem rc_lt_str (a b : Str) (t u : Tok) : RcO A s .Lt (.str a t) (.str b u) (decide (a.cps.toList < b.cps.toList)) := fun prog w E Q hq => P.lt_str hq
theorem rc_gt_str (a b : Str) (t u : Tok) : RcO A s .Gt (.str a t) (.str b u) (decide (b.cps.toList < a.cps.toList)) := fun prog w E Q hq => P.gt_str hq

theorem eqAt_int' {a b : Int} {t u : Tok} {d : Bool} (h : decide (a = b) = d) : EqAt A s (.int a t) (.int b u) d := h ▸ eqAt_int a b t u
theorem eqAt_str' {a b : Str} {t u : Tok} {d : Bool} (h : decide (a = b) = d) : EqAt A s (.str a t) (.str b u) d := h ▸ eqAt_str a b t u
theorem RpL.nil_inv {vs : List Value} (h : RpL W g vs []) : vs = [] := by cases h; rfl
theorem RpL.cons_inv {vs : List Value} {a : AV} {l : List AV} (h : RpL W g vs (a :: l)) : ∃ v vs', vs = v :: vs' ∧ Rp W g v a ∧ RpL W g vs' l := by cases h with | cons h1 h2 => exact ⟨_, _, rfl, h1, h2⟩
theorem Rp.int_inv {v : Value} {a : Int} (h : Rp W g v (.int a)) : ∃ t, v = .int a t := by cases h; exact ⟨_, rfl⟩
theorem Rp.int' {v : Value} {a : AV} {i : Int} (h : Rp W g v a) (e : asInt a = some i) : ∃ t, v = .int i t := by cases asInt_inv e; exact h.int_inv
theorem Rp.str_inv {v : Value} {a : Str} (h : Rp W g v (.str a)) : ∃ t, v = .str a t := by cases h; exact ⟨_, rfl⟩

theorem Rp.str' {v : Value} {a : AV} {i : Str} (h : Rp W g v a) (e : asStr a = some i) : ∃ t, v = .str i t := by cases asStr_inv e; exact h.str_inv
theorem RpL.one' {vs : List Value} {l : List AV} {a : AV} (h : RpL W g vs l) (e : one l = some a) : ∃ v, vs = [v] ∧ Rp W g v a := by
  cases one_inv e
  obtain ⟨v, vs', rfl, h1, h2⟩ := h.cons_inv
  obtain rfl := h2.nil_inv
  exact ⟨v, rfl, h1⟩
theorem RpL.two' {vs : List Value} {l : List AV} {q : AV × AV} (h : RpL W g vs l) (e : two l = some q) : ∃ v u, vs = [v, u] ∧ Rp W g v q.1 ∧ Rp W g u q.2 := by
  obtain ⟨a, b⟩ := q
  cases two_inv e
  obtain ⟨v, vs', rfl, h1, h2⟩ := h.cons_inv
  obtain ⟨u, rfl, h3⟩ := h2.one' rfl
  exact ⟨v, u, rfl, h1, h3⟩
theorem RpL.emp' {vs : List Value} {l : List AV} (h : RpL W g vs l) (e : l.isEmpty = true) : vs = [] := by cases isEmpty_inv e; exact h.nil_inv

/-- what an answer of ltFlat tells -/
inductive LtI : List AV → List AV → Bool → Prop
  | nil : LtI [] [] false
  | ieq {a : Int} {r t : List AV} {c : Bool} : ltFlat r t = some c → LtI (.int a :: r) (.int a :: t) c
  | ine {a b : Int} {r t : List AV} : a ≠ b → LtI (.int a :: r) (.int b :: t) (decide (a < b))
  | seq {a : Str} {r t : List AV} {c : Bool} : ltFlat r t = some c → LtI (.str a :: r) (.str a :: t) c
  | sne {a b : Str} {r t : List AV} : a ≠ b → LtI (.str a :: r) (.str b :: t) (decide (a.cps.toList < b.cps.toList))
theorem ltI_of {l m : List AV} {c : Bool} (e : ltFlat l m = some c) : LtI l m c := by
  cases l with
  | nil =>
    refine ifs e fun h1 h2 => ?_
    obtain rfl := isEmpty_inv h1
    obtain rfl := Option.some.inj h2
    exact .nil
  | cons a r => cases m with
    | nil => exact none_ne e
    | cons b t =>
      have e : lt1 a b (ltFlat r t) = some c := e
      cases a with
      | int i =>
        refine bnd e fun j h1 h2 => ifb h2 (fun h h3 => ?_) fun h h3 => ?_
        · obtain rfl := asInt_inv h1; subst h; exact .ieq h3
        · obtain rfl := asInt_inv h1; obtain rfl := Option.some.inj h3; exact .ine h
      | str i =>
        refine bnd e fun j h1 h2 => ifb h2 (fun h h3 => ?_) fun h h3 => ?_
        · obtain rfl := asStr_inv h1; subst h; exact .seq h3
        · obtain rfl := asStr_inv h1; obtain rfl := Option.some.inj h3; exact .sne h
      | _ => exact none_ne e

theorem lex_lt : ∀ {l : List AV} {vs us : List Value} {m : List AV} {c : Bool}, RpL W g vs l → RpL W g us m → ltFlat l m = some c → ∀ fin : Bool, (vs.length = us.length → fin = false) → Lex A s .Lt fin (vs.zip us) c := by
  intro l
  induction l with
  | nil =>
    intro vs us m c h1 h2 e fin hf
    cases ltI_of e
    obtain rfl := h1.nil_inv
    obtain rfl := h2.nil_inv
    rw [hf rfl]; exact .nil
  | cons x l ih =>
    intro vs us m c h1 h2 e fin hf
    obtain ⟨v, vs, rfl, h1, r1⟩ := h1.cons_inv
    cases ltI_of e with
    | ieq e =>
      obtain ⟨u, us, rfl, h2, r2⟩ := h2.cons_inv
      obtain ⟨t, rfl⟩ := h1.int_inv
      obtain ⟨t', rfl⟩ := h2.int_inv
      exact .eq (eqAt_int' (decide_eq_true rfl)) (ih r1 r2 e fin fun q => hf (congrArg Nat.succ q))
    | ine h =>
      obtain ⟨u, us, rfl, h2, r2⟩ := h2.cons_inv
      obtain ⟨t, rfl⟩ := h1.int_inv
      obtain ⟨t', rfl⟩ := h2.int_inv
      exact .ne (eqAt_int' (decide_eq_false h)) (rc_lt_int _ _ t t')
    | seq e =>
      obtain ⟨u, us, rfl, h2, r2⟩ := h2.cons_inv
      obtain ⟨t, rfl⟩ := h1.str_inv
      obtain ⟨t', rfl⟩ := h2.str_inv
      exact .eq (eqAt_str' (decide_eq_true rfl)) (ih r1 r2 e fin fun q => hf (congrArg Nat.succ q))
    | sne h =>
      obtain ⟨u, us, rfl, h2, r2⟩ := h2.cons_inv
      obtain ⟨t, rfl⟩ := h1.str_inv
      obtain ⟨t', rfl⟩ := h2.str_inv
      exact .ne (eqAt_str' (decide_eq_false h)) (rc_lt_str _ _ t t')

theorem lex_gt : ∀ {m : List AV} {vs us : List Value} {l : List AV} {c : Bool}, RpL W g vs l → RpL W g us m → ltFlat m l = some c → ∀ fin : Bool, (vs.length = us.length → fin = false) → Lex A s .Gt fin (vs.zip us) c := by
  intro m
  induction m with
  | nil =>
    intro vs us l c h1 h2 e fin hf
    cases ltI_of e
    obtain rfl := h1.nil_inv
    obtain rfl := h2.nil_inv
    rw [hf rfl]; exact .nil
  | cons x m ih =>
    intro vs us l c h1 h2 e fin hf
    obtain ⟨u, us, rfl, h2, r2⟩ := h2.cons_inv
    cases ltI_of e with
    | ieq e =>
      obtain ⟨v, vs, rfl, h1, r1⟩ := h1.cons_inv
      obtain ⟨t, rfl⟩ := h1.int_inv
      obtain ⟨t', rfl⟩ := h2.int_inv
      exact .eq (eqAt_int' (decide_eq_true rfl)) (ih r1 r2 e fin fun q => hf (congrArg Nat.succ q))
    | ine h =>
      obtain ⟨v, vs, rfl, h1, r1⟩ := h1.cons_inv
      obtain ⟨t, rfl⟩ := h1.int_inv
      obtain ⟨t', rfl⟩ := h2.int_inv
      exact .ne (eqAt_int' (decide_eq_false (Ne.symm h))) (rc_gt_int _ _ t t')
    | seq e =>
      obtain ⟨v, vs, rfl, h1, r1⟩ := h1.cons_inv
      obtain ⟨t, rfl⟩ := h1.str_inv
      obtain ⟨t', rfl⟩ := h2.str_inv
      exact .eq (eqAt_str' (decide_eq_true rfl)) (ih r1 r2 e fin fun q => hf (congrArg Nat.succ q))
    | sne h =>
      obtain ⟨v, vs, rfl, h1, r1⟩ := h1.cons_inv
      obtain ⟨t, rfl⟩ := h1.str_inv
      obtain ⟨t', rfl⟩ := h2.str_inv
      exact .ne (eqAt_str' (decide_eq_false (Ne.symm h))) (rc_gt_str _ _ t t')

theorem rc_lt_tup {a b : Addr} {l m : List AV} {c : Bool} (hu : A.units < cLine) (x : TupAt W s.heap g a l) (y : TupAt W s.heap g b m) (e : ltFlat l m = some c) : RcO A s .Lt (.ref a) (.ref b) c := fun prog w E Q hq => by
  obtain ⟨n, vs, ho, r⟩ := x
  obtain ⟨n2, us, ho2, r2⟩ := y
  exact richCompare_meets_room (op := .Lt) ⟨_, ho, rfl⟩ ⟨_, ho2, rfl⟩ PySem.F.slot_tuple_lt PySem.F.entry_tuple_lt (PySem.F.args_tuple_lt_2 _ _) (tuple_ltL a b vs us n n2 none none #[] #[] c)
    ⟨ho, ho2, lex_lt r r2 e _ (fun q => by simp only [Array.length_toList] at q; simp [q]), show Value.bool c ≠ Value.notImplemented ∧ Q (.bool c) s from ⟨(fun x => nomatch x), hq⟩⟩ hu
theorem rc_gt_tup {a b : Addr} {l m : List AV} {c : Bool} (hu : A.units < cLine) (x : TupAt W s.heap g a l) (y : TupAt W s.heap g b m) (e : ltFlat m l = some c) : RcO A s .Gt (.ref a) (.ref b) c := fun prog w E Q hq => by
  obtain ⟨n, vs, ho, r⟩ := x
  obtain ⟨n2, us, ho2, r2⟩ := y
  exact richCompare_meets_room (op := .Gt) ⟨_, ho, rfl⟩ ⟨_, ho2, rfl⟩ PySem.F.slot_tuple_gt PySem.F.entry_tuple_gt (PySem.F.args_tuple_gt_2 _ _) (tuple_gtL a b vs us n n2 none none #[] #[] c)
    ⟨ho, ho2, lex_gt r r2 e _ (fun q => by simp only [Array.length_toList] at q; simp [q]), show Value.bool c ≠ Value.notImplemented ∧ Q (.bool c) s from ⟨(fun x => nomatch x), hq⟩⟩ hu
end

/-! != of tuples that hold ints and dicts of ints -/

noncomputable def EqA (W : Wd) (A : Around) (s : Shared) (x y : Value) (b : Bool) : Prop :=
  ∀ (E : Value → Shared → Prop) (Q : Bool → Shared → Prop), Q b s → wpAny W.md A (eqBool x y) Q E s

/-- the first pair that differs says so by itself -/
inductive LexN (W : Wd) (A : Around) (s : Shared) (fin : Bool) : List (Value × Value) → Bool → Prop
  | nil : LexN W A s fin [] fin
  | eq {x y : Value} {r : List (Value × Value)} {b : Bool} : EqA W A s x y true → LexN W A s fin r b → LexN W A s fin ((x, y) :: r) b
  | ne {x y : Value} {r : List (Value × Value)} : EqA W A s x y false → LexN W A s fin ((x, y) :: r) true

theorem tuple_neL (W : Wd) (l b : Addr) (items items2 : Array Value) (n n2 : Nat) (dd dd2 : Option Addr) (sl sl2 : Array (Option Value)) (c : Bool) :
    MeetsIn W.prog W.w (Builtin.«tuple.__ne__» ⟨[.ref l, .ref b], []⟩)
      (fun A R s => s.heap.get? l = some { cls := .type "tuple", dict := dd, data := .seq items n, slots := sl } ∧ s.heap.get? b = some { cls := .type "tuple", dict := dd2, data := .seq items2 n2, slots := sl2 } ∧
        LexN W A.in1 s (items.size != items2.size) (items.toList.zip items2.toList) c ∧ R (.ok (.ret (.bool c))) s) :=
  .of_wp fun A R s h => by
    obtain ⟨hp, g, d, tk, os⟩ := s; obtain ⟨hl, hb, he, h⟩ := h
    have f2 := AutoSeq1.sub_tuple_tuple
    wp_walk using wpAny_loadPart' hl, wpAny_loadPart' hb, wpAny_forIn_list _ (fun rest b s' => b.1 = none ∧ s' = ⟨hp, g, d, tk, os⟩ ∧ LexN W A.in1 ⟨hp, g, d, tk, os⟩ (items.size != items2.size) rest c) _
    case turn =>
      rintro ⟨y, x⟩ rest b s' ⟨hb', rfl, hx⟩
      cases hx with
      | eq e1 e2 =>
        refine wpAny_bind (e1 _ _ ?_)
        wp_walk
        exact ⟨rfl, rfl, e2⟩
      | ne e1 =>
        refine wpAny_bind (e1 _ _ ?_)
        wp_walk
        exact ⟨_, rfl, h⟩
    case fin =>
      rintro ⟨b1, b2⟩ s' ⟨hb', rfl, hx⟩
      simp only at hb'
      subst hb'
      cases hx
      wp_walk
      exact ⟨_, rfl, by simpa [Builtin.Tuple.tupleCompareSizes] using h⟩
    case h =>
      exact ⟨rfl, rfl, he⟩

section
variable {A : Around} {s : Shared} {W : Wd} {g : G} {M : List Addr} {E : Value → Shared → Prop}

theorem dictInts_of : ∀ {kvs : List (Str × Value)} {l : List (Str × AV)} {x : List (Str × Int)}, RpD W g kvs l → dictInts l = some x →
    ∃ ts : List Tok, ts.length = x.length ∧ kvs = (x.zip ts).map fun p => (p.1.1, .int p.1.2 p.2)
  | _, _, _, .nil, e => by obtain rfl := Option.some.inj e; exact ⟨[], rfl, rfl⟩
  | _, _, _, .cons (a := a) h1 h2, e => by
    refine bnd e fun i q e => mpd e fun y hy hx => ?_
    obtain rfl : a = .int i := asInt_inv q
    obtain ⟨t, rfl⟩ := h1.int_inv
    obtain ⟨ts, hl, rfl⟩ := dictInts_of h2 hy
    subst hx
    exact ⟨t :: ts, by simp [hl], by simp⟩

theorem dictInts_keys : ∀ {l : List (Str × AV)} {x : List (Str × Int)}, dictInts l = some x → x.map (·.1) = l.map (·.1)
  | [], _, e => by obtain rfl := Option.some.inj e; rfl
  | (k, v) :: l, x, e => bnd e fun i q e => mpd e fun y hy hx => by subst hx; exact congrArg (k :: ·) (dictInts_keys hy)

theorem valueAt_ints (x : List (Str × Int)) (k : Str) : ∀ (ts : List Tok), ts.length = x.length →
    (∃ i t, valueAt ((x.zip ts).map fun p => (p.1.1, Value.int p.1.2 p.2)) k = some (.int i t) ∧ x.lookup k = some i) ∨
    (valueAt ((x.zip ts).map fun p => (p.1.1, Value.int p.1.2 p.2)) k = none ∧ x.lookup k = none) := by
  induction x with
  | nil => intro ts h; right; cases ts <;> simp [valueAt]
  | cons p x ih =>
    intro ts h
    cases ts with
    | nil => simp at h
    | cons t ts =>
      obtain ⟨k', i⟩ := p
      by_cases hk : k' = k
      · subst hk
        left; exact ⟨i, t, by simp [valueAt], by simp⟩
      · have hb : (k == k') = false := by simpa using fun e => hk e.symm
        have e1 : valueAt ((((k', i) :: x).zip (t :: ts)).map fun p => (p.1.1, Value.int p.1.2 p.2)) k = valueAt ((x.zip ts).map fun p => (p.1.1, Value.int p.1.2 p.2)) k := by
          simp [valueAt, hk]
        rw [e1, List.lookup_cons, hb]
        exact ih ts (by simpa using h)

theorem hits_of {y : List (Str × Int)} {us : List Tok} (hu : us.length = y.length) : ∀ (x : List (Str × Int)) (ts : List Tok), ts.length = x.length →
    ∃ r, KeqHits A s ((y.zip us).map fun p => (p.1.1, Value.int p.1.2 p.2)) ((x.zip ts).map fun p => (p.1.1, Value.int p.1.2 p.2)) r ∧ r = x.all fun p => y.lookup p.1 == some p.2
  | [], ts, _ => by cases ts <;> exact ⟨true, by simpa using KeqHits.nil, by simp⟩
  | (k, i) :: x, [], h => by simp at h
  | (k, i) :: x, t :: ts, h => by
    obtain ⟨r, hr, er⟩ := hits_of hu x ts (by simpa using h)
    rcases valueAt_ints y k us hu with ⟨j, u, h1, h2⟩ | ⟨h1, h2⟩
    · refine ⟨decide (i = j) && r, ?_, ?_⟩
      · simp only [List.zip_cons_cons, List.map_cons]
        exact .hit h1 (eqAt_int i j t u) hr
      · simp only [List.all_cons, h2, er]
        congr 1
        by_cases hij : i = j
        · subst hij; simp
        · simp [hij, Ne.symm hij]
    · refine ⟨false, ?_, ?_⟩
      · simp only [List.zip_cons_cons, List.map_cons]
        exact .miss h1
      · simp [h2]

theorem eqDict_self {x : List (Str × Int)} (h : (x.map (·.1)).Nodup) : eqDict x x = true := by
  unfold eqDict
  simp only [decide_true, Bool.true_and, List.all_eq_true]
  intro p hp
  have : x.lookup p.1 = some p.2 := by
    induction x with
    | nil => cases hp
    | cons q x ih =>
      obtain ⟨k', i⟩ := q
      rw [List.map_cons, List.nodup_cons] at h
      rw [List.lookup_cons]
      rcases List.mem_cons.mp hp with e | hm
      · subst e; simp
      · have hne : (p.1 == k') = false := by
          refine beq_eq_false_iff_ne.mpr fun q => h.1 ?_
          show k' ∈ _
          rw [← q]; exact List.mem_map_of_mem (f := Prod.fst) hm
        rw [hne]
        exact ih h.2 hm
  rw [this]; simp

theorem eqA_dict (hu : A.units + 1 < cLine) {a b : Addr} {l m : List (Str × AV)} {x y : List (Str × Int)} (p : DctAt W s.heap g a l) (q : DctAt W s.heap g b m) (ex : dictInts l = some x) (ey : dictInts m = some y) :
    EqA W A s (.ref a) (.ref b) (eqDict x y) := fun E Q hq => by
  obtain ⟨ka, da, sa, ra⟩ := p
  obtain ⟨kb, db, sb, rb⟩ := q
  obtain ⟨ts, hts, e1⟩ := dictInts_of ra ex
  obtain ⟨us, hus, e2⟩ := dictInts_of rb ey
  by_cases hab : a = b
  · subst hab
    have hxy : x = y := by
      obtain ⟨o, es, ep, ho, _, hd, _, hp, hn⟩ := da
      obtain ⟨o', es', ep', ho', _, hd', _, hp', _⟩ := db
      rw [ho] at ho'; cases ho'
      rw [hd] at hd'; cases hd'
      have pk : ∀ {es : List DictEntry} {ka kb : List (Str × Value)}, Pairs W.kd es ka → Pairs W.kd es kb → ka = kb := by
        intro es ka kb h1
        induction h1 generalizing kb with
        | nil => intro h2; cases h2; rfl
        | cons hk hv _ ih =>
          intro h2
          cases h2 with
          | cons hk' hv' ht =>
            rw [ih ht]
            congr 1
            exact Prod.ext (W.kd.inj _ _ _ hk hk') (hv.symm.trans hv')
      have hk := pk hp hp'
      rw [e1, e2] at hk
      have : ∀ (x y : List (Str × Int)) (ts us : List Tok), ts.length = x.length → us.length = y.length → ((x.zip ts).map fun p => (p.1.1, Value.int p.1.2 p.2)) = ((y.zip us).map fun p => (p.1.1, Value.int p.1.2 p.2)) → x = y := by
        intro x
        induction x with
        | nil => intro y ts us h1 h2 h3; cases y with
          | nil => rfl
          | cons => cases us with
            | nil => simp at h2
            | cons => cases ts <;> simp at h3
        | cons p x ih => intro y ts us h1 h2 h3; cases y with
          | nil => cases ts with
            | nil => simp at h1
            | cons => cases us <;> simp at h3
          | cons q y => cases ts with
            | nil => simp at h1
            | cons t ts => cases us with
              | nil => simp at h2
              | cons u us =>
                simp only [List.zip_cons_cons, List.map_cons, List.cons.injEq, Prod.mk.injEq, Value.int.injEq] at h3
                rw [ih y ts us (by simpa using h1) (by simpa using h2) h3.2]
                congr 1
                exact Prod.ext h3.1.1 h3.1.2.1
      exact this _ _ _ _ hts hus hk
    subst hxy
    have hn : (x.map (·.1)).Nodup := by
      rw [dictInts_keys ex, ← ra.keys]
      obtain ⟨o, es, ep, ho, _, hd, _, hp, hn⟩ := da
      exact hn
    rw [eqDict_self hn] at hq
    exact SeqAt.EqAt.same (A := A) (s := s) (.ref a) _ _ _ _ hq
  · unfold eqBool
    refine wpAny_holding ?_
    refine wpAny_ite_split (fun h => absurd (by have := eq_of_beq h; injection this) hab) (fun _ => ?_)
    obtain ⟨r, hr, er⟩ := hits_of (A := A.in1) (s := s) hus x ts hts
    have hla : ka.length = x.length := by rw [e1]; simp [hts]
    have hlb : kb.length = y.length := by rw [e2]; simp [hus]
    refine wpAny_bind (keq_eq (knd := W.kd) sa sb da db (by omega) (fun _ => by rw [e1, e2]; exact hr) (wpAny_truthy_bool ?_))
    rw [hla, hlb, er]
    have : (x.length == y.length && x.all fun p => y.lookup p.1 == some p.2) = eqDict x y := by
      unfold eqDict
      by_cases h : x.length = y.length <;> simp [h]
    rw [this]; exact hq

inductive EqI : List AV → List AV → Bool → Prop
  | nil : EqI [] [] true
  | int {a b : Int} {r t : List AV} {c : Bool} : eqFlat r t = some c → EqI (.int a :: r) (.int b :: t) (decide (a = b) && c)
  | dct {a b : List (Str × AV)} {r t : List AV} {x y : List (Str × Int)} {c : Bool} : dictInts a = some x → dictInts b = some y → eqFlat r t = some c → EqI (.dict a :: r) (.dict b :: t) (eqDict x y && c)
theorem eqI_of {l m : List AV} {c : Bool} (e : eqFlat l m = some c) : EqI l m c := by
  cases l with
  | nil =>
    refine ifs e fun h1 h2 => ?_
    obtain rfl := isEmpty_inv h1
    obtain rfl := Option.some.inj h2
    exact .nil
  | cons a r => cases m with
    | nil => exact none_ne e
    | cons b t =>
      have e : eq1 a b (eqFlat r t) = some c := e
      cases a with
      | int i =>
        refine bnd e fun j h1 h2 => mpd h2 fun d h3 h4 => ?_
        obtain rfl := asInt_inv h1; subst h4; exact .int h3
      | dict i =>
        refine bnd e fun j h1 h2 => bnd h2 fun x h3 h2 => bnd h2 fun y h4 h2 => mpd h2 fun d h5 h6 => ?_
        obtain rfl := asDict_inv h1; subst h6; exact .dct h3 h4 h5
      | _ => exact none_ne e
theorem Rp.dict_at {W : Wd} {h : Heap} {M : List Addr} {v : Value} {l : List (Str × AV)} (x : Rp W (vis h M) v (.dict l)) : ∃ a : Addr, v = .ref a ∧ DctAt W h (vis h M) a l := by
  cases x with
  | dict e1 i1 s1 d1 => exact ⟨_, rfl, ⟨_, Heap.dictOf_iff.mpr ⟨_, (vis_iff.mp e1).2, i1⟩, s1, d1⟩⟩

theorem lexN_of (hu : A.units + 1 < cLine) : ∀ {l : List AV} {vs us : List Value} {m : List AV} {c : Bool}, RpL W (vis s.heap M) vs l → RpL W (vis s.heap M) us m → eqFlat l m = some c → ∀ fin : Bool, (vs.length = us.length → fin = false) → LexN W A s fin (vs.zip us) (!c) := by
  have go : ∀ {u v : Value} {us vs : List Value} {c d fin : Bool}, EqA W A s v u d → LexN W A s fin (vs.zip us) (!c) → LexN W A s fin ((v :: vs).zip (u :: us)) (!(d && c)) := by
    intro u v us vs c d fin q r
    cases d with
    | true => exact .eq q r
    | false => exact .ne q
  intro l
  induction l with
  | nil =>
    intro vs us m c h1 h2 e fin hf
    cases eqI_of e
    obtain rfl := h1.nil_inv
    obtain rfl := h2.nil_inv
    rw [hf rfl]; exact .nil
  | cons x l ih =>
    intro vs us m c h1 h2 e fin hf
    obtain ⟨v, vs, rfl, h1, r1⟩ := h1.cons_inv
    cases eqI_of e with
    | int he =>
      obtain ⟨u, us, rfl, h2, r2⟩ := h2.cons_inv
      obtain ⟨t, rfl⟩ := h1.int_inv
      obtain ⟨t', rfl⟩ := h2.int_inv
      exact go (fun E Q => eqAt_int (A := A) (s := s) _ _ t t' _ _ E Q) (ih r1 r2 he fin fun q => hf (congrArg Nat.succ q))
    | dct ex ey he =>
      obtain ⟨u, us, rfl, h2, r2⟩ := h2.cons_inv
      obtain ⟨p, rfl, hp⟩ := h1.dict_at
      obtain ⟨q, rfl, hq⟩ := h2.dict_at
      exact go (eqA_dict hu hp hq ex ey) (ih r1 r2 he fin fun q => hf (congrArg Nat.succ q))

theorem ne_tup (hu : A.units + 2 < cLine) {a b : Addr} {l m : List AV} {c : Bool} (x : TupAt W s.heap (vis s.heap M) a l) (y : TupAt W s.heap (vis s.heap M) b m) (e : eqFlat l m = some c) {Q : Value → Shared → Prop} (hq : Q (.bool (!c)) s) :
    wpAny W.md A (compareOp .NotEq (.ref a) (.ref b)) Q E s := by
  obtain ⟨n, vs, ho, r⟩ := x
  obtain ⟨n2, us, ho2, r2⟩ := y
  exact wpAny_richCompare_same_room (op := .NotEq) ⟨_, ho, rfl⟩ ⟨_, ho2, rfl⟩ PySem.F.slot_tuple_ne (call_meetsIn PySem.F.slot_tuple_ne ⟨_, ho, rfl⟩ PySem.F.entry_tuple_ne (PySem.F.args_tuple_ne_2 _ _) (tuple_neL W a b vs us n n2 none none #[] #[] (!c))
    ⟨ho, ho2, lexN_of (A := A.in1) hu r r2 e _ (fun q => by simp only [Array.length_toList] at q; simp [q]), show Value.bool (!c) ≠ Value.notImplemented ∧ Q (.bool (!c)) s from ⟨(fun x => nomatch x), hq⟩⟩) (by omega)
end

end Mine

end

/-! part Ops3 -/
section
set_option maxRecDepth 10000
set_option autoImplicit false
set_option linter.unusedVariables false
namespace Mine
open PySem PySem.W PyProof.Rows

section
variable {W : Wd} {A : Around} {E : Value → Shared → Prop} {s : Shared} {M : List Addr} {va vb : Value}

theorem LstAt.list {h : Heap} {g : G} {a : Addr} {l : List AV} (x : LstAt W h g a l) : ∃ vs : Array Value, h.IsList a vs ∧ RpL W g vs.toList l ∧ vs.size = l.length := by
  obtain ⟨n, vs, e, r⟩ := x
  exact ⟨vs, ⟨_, e, rfl, n, rfl⟩, r, by simpa using r.length⟩

theorem kept_same {s : Shared} : Kept s s := Moves.refl _ _

theorem ints_ok (f : Int → Int → Bool) {op : CmpOp} (h : ∀ a b t u, ∀ Q : Value → Shared → Prop, Q (.bool (f a b)) s → wpAny W.md A (compareOp op (.int a t) (.int b u)) Q E s) {a b : AR} {c : Bool} (e : intsA f a.v b.v = some c) (ra : ARel W s.heap M va a) (rb : ARel W s.heap M vb b) :
    wpAny W.md A (compareOp op va vb) (fun v s' => v = .bool c ∧ Kept s s') E s := by
  refine bnd e fun x h1 e => mpd e fun y h2 h3 => ?_
  obtain ⟨t, rfl⟩ := ra.int' h1; obtain ⟨u, rfl⟩ := rb.int' h2
  exact h _ _ _ _ _ ⟨congrArg _ h3, kept_same⟩
theorem lt_ok (hu : A.units + 4 < cLine) {a b : AR} {c : Bool} (e : ltA a.v b.v = some c) (ra : ARel W s.heap M va a) (rb : ARel W s.heap M vb b) :
    wpAny W.md A (compareOp .Lt va vb) (fun v s' => v = .bool c ∧ Kept s s') E s := by
  obtain ⟨a, oa⟩ := a
  cases a with
  | int x =>
    refine mpd e fun y h2 h3 => ?_
    obtain ⟨t, rfl⟩ := ra.int; obtain ⟨u, rfl⟩ := rb.int' h2
    exact P.lt_int ⟨congrArg _ h3, kept_same⟩
  | str x =>
    refine mpd e fun y h2 h3 => ?_
    obtain ⟨t, rfl⟩ := ra.str; obtain ⟨u, rfl⟩ := rb.str' h2
    exact P.lt_str ⟨congrArg _ h3, kept_same⟩
  | tup x =>
    refine bnd e fun y h2 h3 => ?_
    obtain ⟨x, rfl, hx⟩ := ra.tup; obtain ⟨y, rfl, hy⟩ := rb.tup' h2
    exact rc_lt_tup (by lia) hx hy h3 W.prog W.w E _ ⟨rfl, kept_same⟩
  | _ => exact none_ne e
theorem eq_ok (hu : A.units + 4 < cLine) {a b : AR} {c : Bool} (e : eqA a.v b.v = some c) (ra : ARel W s.heap M va a) (rb : ARel W s.heap M vb b) :
    wpAny W.md A (compareOp .Eq va vb) (fun v s' => v = .bool c ∧ Kept s s') E s := by
  obtain ⟨a, oa⟩ := a
  cases a with
  | int x =>
    refine mpd e fun y h2 h3 => ?_
    obtain ⟨t, rfl⟩ := ra.int; obtain ⟨u, rfl⟩ := rb.int' h2
    exact P.eq_int ⟨congrArg _ h3, kept_same⟩
  | str x =>
    refine mpd e fun y h2 h3 => ?_
    obtain ⟨t, rfl⟩ := ra.str; obtain ⟨u, rfl⟩ := rb.str' h2
    exact PyProof.Rows.eq_str ⟨congrArg _ h3, kept_same⟩
  | dict l =>
    refine bnd e fun y h2 h3 => ifs h3 fun h4 h5 => ?_
    cases isEmpty_inv h4
    obtain ⟨x, rfl, ka, da, sa, r1⟩ := ra.dct
    obtain ⟨y, rfl, kb, db, sb, r2⟩ := rb.dct' h2
    obtain rfl : kb = [] := List.eq_nil_of_length_eq_zero r2.length
    refine keq_eq (knd := W.kd) (r := true) sa sb da db (by lia) (fun q => ?_) ⟨?_, kept_same⟩
    · obtain rfl : ka = [] := List.eq_nil_of_length_eq_zero q
      exact .nil
    · obtain rfl := Option.some.inj h5
      have := r1.length
      cases l with
      | nil => simp at this; simp [this]
      | cons => simp at this; simp [this]
  | _ => exact none_ne e
theorem ne_ok (hu : A.units + 4 < cLine) {a b : AR} {c : Bool} (e : neA a.v b.v = some c) (ra : ARel W s.heap M va a) (rb : ARel W s.heap M vb b) :
    wpAny W.md A (compareOp .NotEq va vb) (fun v s' => v = .bool c ∧ Kept s s') E s := by
  obtain ⟨a, oa⟩ := a
  cases a with
  | int x =>
    refine mpd e fun y h2 h3 => ?_
    obtain ⟨t, rfl⟩ := ra.int; obtain ⟨u, rfl⟩ := rb.int' h2
    exact P.ne_int ⟨congrArg _ h3, kept_same⟩
  | str x =>
    refine mpd e fun y h2 h3 => ?_
    obtain ⟨t, rfl⟩ := ra.str; obtain ⟨u, rfl⟩ := rb.str' h2
    exact PyProof.Rows.ne_str ⟨congrArg _ h3, kept_same⟩
  | list l =>
    refine bnd e fun y h2 h3 => ifs h3 fun h4 h5 => ?_
    cases isEmpty_inv h4
    obtain rfl := Option.some.inj h5
    obtain ⟨x, rfl, hx⟩ := ra.lst; obtain ⟨y, rfl, hy⟩ := rb.lst' h2
    obtain ⟨vs, l1, r1, z1⟩ := hx.list
    obtain ⟨us, l2, r2, z2⟩ := hy.list
    cases l with
    | nil =>
      have := SeqAt.RcNeAt.lists (A := A) (e := fun _ => true) l1 l2 (by rw [z1, z2]) (by lia) (fun j h1 => by rw [z1] at h1; exact absurd h1 (Nat.not_lt_zero _)) W.prog W.w E
      refine this _ ⟨?_, kept_same⟩
      simp
    | cons p l =>
      have := SeqAt.RcNeAt.lists_lengths (A := A) l1 l2 (by rw [z1, z2]; simp) (by lia) W.prog W.w E
      exact this _ ⟨rfl, kept_same⟩
  | tup l =>
    refine bnd e fun y h2 h3 => mpd h3 fun d h4 h5 => ?_
    subst h5
    obtain ⟨x, rfl, hx⟩ := ra.tup; obtain ⟨y, rfl, hy⟩ := rb.tup' h2
    exact ne_tup (by lia) hx hy h4 ⟨rfl, kept_same⟩
  | _ => exact none_ne e
theorem in_ok {a b : AR} {c : Bool} (e : inA a.v b.v = some c) (ra : ARel W s.heap M va a) (rb : ARel W s.heap M vb b) :
    wpAny W.md A (compareOp .In va vb) (fun v s' => v = .bool c ∧ Kept s s') E s := by
  refine bnd e fun x h1 e => ?_
  obtain ⟨t, rfl⟩ := ra.str' h1
  obtain ⟨b, ob⟩ := b
  cases b with
  | str y =>
    obtain ⟨u, rfl⟩ := rb.str
    exact SB.contains ⟨congrArg _ (Option.some.inj e), kept_same⟩
  | dict d =>
    obtain ⟨y, rfl, kvs, hd, hs, r⟩ := rb.dct
    refine wpAny_in_of (knd := W.kd) (strKind_is _ _ _ _) hs hd.mapOf ⟨congrArg _ ((?_ : _ = (d.lookup x).isSome).trans (Option.some.inj e)), kept_toks _⟩
    rcases r.valueAt x with ⟨v, a, h1, h2, _⟩ | ⟨h1, h2⟩ <;> rw [h1, h2] <;> rfl
  | _ => exact none_ne e
theorem is_ok {a b : AR} {c : Bool} (e : isA a.v b.v = some c) (ra : ARel W s.heap M va a) (rb : ARel W s.heap M vb b) :
    wpAny W.md A (compareOp .Is va vb) (fun v s' => v = .bool c ∧ Kept s s') E s := by
  refine bnd e fun x h1 e => mpd e fun y h2 h3 => ?_
  subst h3
  cases ra.bool' h1; cases rb.bool' h2
  exact wpAny_is_plain rfl ⟨by cases x <;> cases y <;> rfl, kept_same⟩
theorem nin_ok {a b : AR} {c : Bool} (e : ninA a.v b.v = some c) (ra : ARel W s.heap M va a) (rb : ARel W s.heap M vb b) :
    wpAny W.md A (compareOp .NotIn va vb) (fun v s' => v = .bool c ∧ Kept s s') E s := by
  refine bnd e fun x h1 e => mpd e fun y h2 h3 => ?_
  obtain ⟨t, rfl⟩ := ra.str' h1; obtain ⟨u, rfl⟩ := rb.str' h2
  exact SB.notContains ⟨congrArg _ h3, kept_same⟩

theorem cmpA_ok (hu : A.units + 4 < cLine) {op : CmpOp} {a b : AR} {c : Bool} (e : cmpA op a.v b.v = some c) (ra : ARel W s.heap M va a) (rb : ARel W s.heap M vb b) :
    wpAny W.md A (compareOp op va vb) (fun v s' => v = .bool c ∧ Kept s s') E s := by
  cases op with
  | Lt => exact lt_ok hu e ra rb
  | LtE => exact ints_ok _ (fun a b t u Q q => P.le_int q) e ra rb
  | Gt => exact ints_ok _ (fun a b t u Q q => P.gt_int q) e ra rb
  | GtE => exact ints_ok _ (fun a b t u Q q => P.ge_int q) e ra rb
  | Eq => exact eq_ok hu e ra rb
  | NotEq => exact ne_ok hu e ra rb
  | Is => exact is_ok e ra rb
  | In => exact in_ok e ra rb
  | NotIn => exact nin_ok e ra rb
  | _ => exact none_ne e

/-! items -/

theorem wpAny_subscripted {slice : PySem.Expr} {o i : Value} {Q : Value → Shared → Prop} {M : Model} (h : wpAny M A (getItem o i) Q E s) : wpAny M A (subscripted slice false o i) Q E s := by
  unfold subscripted
  split
  · exact wpAny_operating h
  · rename_i h'; cases h'
  · exact wpAny_operating h

theorem subs_rule {env : Env} {value slice : PySem.Expr} {pos : Pos} {Q : Value → Shared → Prop}
    (h : wpAny W.md A (eval value env) (fun o s₁ => wpAny W.md A (eval slice env) (fun i s₂ => ItemOn W.md A E o i Q s₂) E s₁) E s) :
    wpAny W.md A (eval (.Subscript value slice pos) env) Q E s := by
  rw [eval_Subscript]
  refine wpAny_bind (wpAny_mono h (fun o s₁ h₁ => wpAny_bind (wpAny_holding (wpAny_mono h₁ (fun i s₂ h₂ => wpAny_bind (wpAny_standAt ?_)) fun _ _ x => x)))
    fun _ _ x => x)
  obtain ⟨T, id, hl, hT, hg⟩ := h₂
  refine wpAny_bind ?_
  rw [getitemInPython_of_ne hT.not_modules]
  refine wpAny_bind (wpAny_specialOf hT hl ?_)
  refine wpAny_pure (wpAny_bind (wpAny_subscripted (wpAny_mono hg (fun r s₃ h₃ => wpAny_bind (wpAny_letTemporaryGo (wpAny_pure h₃))) fun _ _ x => x)))

theorem LstAt.typeIs {a : Addr} {l : List AV} {g : G} (x : LstAt W s.heap g a l) : s.TypeIs (.ref a) "list" := let ⟨n, vs, e, r⟩ := x; ⟨_, e, rfl⟩
theorem TupAt.typeIs {a : Addr} {l : List AV} {g : G} (x : TupAt W s.heap g a l) : s.TypeIs (.ref a) "tuple" := let ⟨n, vs, e, r⟩ := x; ⟨_, e, rfl⟩
theorem DctAt.typeIs {a : Addr} {l : List (Str × AV)} {g : G} (x : DctAt W s.heap g a l) : s.TypeIs (.ref a) "dict" := let ⟨kvs, d, _, _⟩ := x; d.typeIs

theorem index_list {a : Addr} {l : List AV} {u : Tok} {i : Int} {c : AV} (hx : LstAt W s.heap (vis s.heap M) a l) (e : (if 0 ≤ i then (if small i = true then l[i.toNat]? else none) else if i = -1 then l.getLast? else none) = some c) :
    ItemOn W.md A E (.ref a) (.int i u) (Gives' W M s c) s := by
  obtain ⟨vs, hl, r, z⟩ := hx.list
  refine ⟨"list", _, list_getitem_lookup, hx.typeIs, ?_⟩
  refine ifb e (fun _ e => ifs e fun hs e => ?_) fun _ e => ifs e fun hi e => ?_
  · have := small_spec hs
    obtain ⟨v, hv, rv⟩ := r.get e
    exact wpAny_getItem_list hl this.1 (by lia) (by simpa using hv) ⟨kept_same, rv⟩
  · subst hi
    have hne : l ≠ [] := by rintro rfl; exact none_ne e
    have hpos : 0 < l.length := List.length_pos_iff.mpr hne
    rw [List.getLast?_eq_getElem?] at e
    obtain ⟨v, hv, rv⟩ := r.get e
    refine wpAny_getItem_list_neg (x := v) hl (by lia) (by lia) (by lia) ?_ ⟨kept_same, rv⟩
    rw [show ((-1 : Int) + vs.size).toNat = l.length - 1 by lia]
    simpa using hv
theorem index_tup {a : Addr} {l : List AV} {u : Tok} {i : Int} {c : AV} (hx : TupAt W s.heap (vis s.heap M) a l) (hs : small i = true) (e : l[i.toNat]? = some c) :
    ItemOn W.md A E (.ref a) (.int i u) (Gives' W M s c) s := by
  obtain ⟨n, vs, ho, r⟩ := hx
  have := small_spec hs
  obtain ⟨v, hv, rv⟩ := r.get e
  obtain ⟨hlt', _⟩ := List.getElem?_eq_some_iff.mp hv
  refine ⟨"tuple", _, PySem.F.slot_tuple_getitem.lookup, ⟨_, ho, rfl⟩, P.getItem_tuple ho (by lia) (by lia) (k := _) ?_ (by simpa using hv) ⟨kept_same, rv⟩⟩
  unfold seqIndex?
  simp only [Array.length_toList] at hlt'
  have h1 : ¬ i < 0 := by lia
  simp only [h1, if_false]
  rw [if_pos (by simp; lia)]
theorem index_str {x : Str} {t u : Tok} {i : Int} (hs : small i = true) (hlt : i.toNat < x.length) : ItemOn W.md A E (.str x t) (.int i u) (Gives' W M s (.str (Txt.item x i))) s := by
  have := small_spec hs
  refine ⟨"str", _, PySem.F.slot_str_getitem.lookup, typeIs_str _ _ _, SB.getItem ?_ ?_ gStr⟩
  · unfold fitsSsize; simp; lia
  · unfold Txt.charAt seqIndex?
    have h1 : ¬ i < 0 := by lia
    simp only [h1, if_false]
    rw [if_pos (by simp; lia)]
    have hlt' : i.toNat < x.cps.size := hlt
    simp [hlt']
theorem index_dict {a : Addr} {d : List (Str × AV)} {k : Str} {u : Tok} {c : AV} (hx : DctAt W s.heap (vis s.heap M) a d) (e : d.lookup k = some c) : ItemOn W.md A E (.ref a) (.str k u) (Gives' W M s c) s := by
  obtain ⟨kvs, hd, hs, r⟩ := hx
  rcases r.valueAt k with ⟨v, a, h1, h2, h3⟩ | ⟨h1, h2⟩
  · obtain rfl := Option.some.inj (h2.symm.trans e)
    exact ⟨"dict", _, slot_dict_getitem.lookup, hd.typeIs, wpAny_getItem_of (knd := W.kd) (strKind_is _ _ _ _) hd.mapOf h1 ⟨kept_toks _, rp_kept h3 (kept_toks _)⟩⟩
  · exact none_ne (h2.symm.trans e)

theorem indexA_ok {a b : AR} {c : AV} (e : indexA a.v b.v = some c) (ra : ARel W s.heap M va a) (rb : ARel W s.heap M vb b) : ItemOn W.md A E va vb (Gives' W M s c) s := by
  obtain ⟨a, oa⟩ := a
  cases a with
  | list l =>
    refine bnd e fun i h1 e => ?_
    obtain ⟨x, rfl, hx⟩ := ra.lst; obtain ⟨u, rfl⟩ := rb.int' h1
    exact index_list hx e
  | tup l =>
    refine bnd e fun i h1 e => ifs e fun hs e => ?_
    obtain ⟨x, rfl, hx⟩ := ra.tup; obtain ⟨u, rfl⟩ := rb.int' h1
    exact index_tup hx hs e
  | str x =>
    refine bnd e fun i h1 e => ifs e fun hs e => ?_
    obtain ⟨t, rfl⟩ := ra.str; obtain ⟨u, rfl⟩ := rb.int' h1
    obtain rfl := Option.some.inj e
    exact index_str hs.1 hs.2
  | dict d =>
    refine bnd e fun k h1 e => ?_
    obtain ⟨x, rfl, hx⟩ := ra.dct; obtain ⟨u, rfl⟩ := rb.str' h1
    exact index_dict hx e
  | _ => exact none_ne e

/-! slices -/

theorem slicePick_to (items : Array Value) (b : Nat) : slicePick items none (some b) none = (items.toList.take b).toArray := by
  have e : sliceBounds none (some (b : Int)) none items.size = (((0 : Nat) : Int), ((min b items.size : Nat) : Int), 1) := by
    simp only [sliceBounds, Option.getD_none]
    have h2 : ¬ ((b : Int) < 0) := by lia
    simp only [h2, if_false, show (1 : Int) > 0 by decide, if_true]
    congr 1
    congr 1; lia
  unfold slicePick
  rw [e]
  simp only [sliceRange_one, pick_run]
  simp only [List.drop_zero, Nat.sub_zero]
  congr 1
  rcases Nat.le_total b items.size with h | h
  · rw [Nat.min_eq_left h]
  · rw [Nat.min_eq_right h, List.take_of_length_le (by simp), List.take_of_length_le (by simpa using h)]

noncomputable def IsBound (v : Value) (o : Option Int) : Prop := match o with
  | none => v = .none
  | some i => ∃ t, v = .int i t

theorem bound_part {v : Value} {o : Option Int} (h : IsBound v o) : ∃ pl : Option (Int × Tok), v = partValue pl ∧ pl.map (·.1) = o := by
  cases o with
  | none => cases h; exact ⟨none, rfl, rfl⟩
  | some i => obtain ⟨t, rfl⟩ := h; exact ⟨some (i, t), rfl, rfl⟩

theorem sliceA_ok (hb : Bd M s.heap) {a : AR} {lo hi : Option Int} {vl vh : Value} {c : AV} (e : sliceA a.v lo hi = some c) (ra : ARel W s.heap M va a) (bl : IsBound vl lo) (bh : IsBound vh hi)
    (hpos : ∀ b, hi = some b → 0 ≤ b) :
    ItemOn W.md A E va (.ref s.heap.objs.size) (fun v s' => Kept s s' ∧ Rp W (vis s'.heap M) v c) { s with heap := s.heap.push { cls := .type "slice", data := .fields #[vl, vh, .none] } } := by
  obtain ⟨a, oa⟩ := a
  have kp : Kept s { s with heap := s.heap.push { cls := .type "slice", data := .fields #[vl, vh, .none] } } := kept_push _
  cases a with
  | str x =>
    refine ifs e fun hs e => ?_
    obtain rfl := Option.some.inj e
    obtain ⟨t, rfl⟩ := ra.str
    obtain ⟨pl, rfl, rfl⟩ := bound_part bl
    obtain ⟨ph, rfl, rfl⟩ := bound_part bh
    refine ⟨"str", _, PySem.F.slot_str_getitem.lookup, typeIs_str _ _ _, wpAny_getItem_str_slice (l := pl) (u := ph) (st := none) ⟨_, Heap.get?_push_size _ rfl, rfl, rfl⟩ rfl ?_⟩
    exact post_val_or_str ⟨Nat.le_trans (Txt.slice_le _ _ _) (line_le hs), fun t' k => ⟨kp.trans (kept_toks _), .str _ _⟩⟩
  | list l =>
    refine ifs e fun hs e => mpd e fun b h1 h2 => ?_
    subst h1 h2
    obtain ⟨h1, h2⟩ := hs
    rw [Option.isNone_iff_eq_none.mp h1] at bl
    obtain ⟨x, rfl, hx⟩ := (ra.kept kp).lst
    obtain ⟨vs, hl, r, z⟩ := hx.list
    cases bl
    obtain ⟨t, rfl⟩ := bh
    have h0 := hpos b rfl
    refine ⟨"list", _, list_getitem_lookup, hx.typeIs, wpAny_getItem_list_slice hl (Heap.IsSliceOf.new ..) .none (.int b t) .none (by decide) ?_ (line_le (by lia))⟩
    have eb : b = ((b.toNat : Nat) : Int) := by lia
    rw [show slicePick vs none (some b) none = (vs.toList.take b.toNat).toArray by rw [eb]; exact slicePick_to vs b.toNat]
    have := gList (M := M) (s := { s with heap := s.heap.push { cls := .type "slice", data := .fields #[.none, .int b t, .none] } }) (hb.kept kp) (r.take b.toNat) s.toks
    exact ⟨kp.trans this.1, this.2⟩
  | _ => exact none_ne e

end
end Mine

end

/-! part Iter -/
section
set_option maxRecDepth 10000
set_option autoImplicit false
set_option linter.unusedVariables false
namespace Mine
open PySem PySem.W PyProof.Rows

/-! iterators: what each next hands out, the mutable addresses M known -/

structure ItP (W : Wd) (A : Around) (M : List Addr) (I : Addr) (tg : PySem.Expr) (l : List AV) (S : Nat → Heap → Prop) : Prop where
  alive : ∀ i h, S i h → ∃ o, h.get? I = some o
  keep : ∀ i h h', S i h → (∀ b o, b ∉ M → h.get? b = some o → h'.get? b = some o) → S i h'
  turn : ∀ i a (s : Shared) (Q : Value → Shared → Prop) (E : Value → Shared → Prop), Bd M s.heap → l[i]? = some a → S i s.heap →
    (∀ v s2, Moves [I] s s2 → S (i + 1) s2.heap → Rp W (vis s2.heap (I :: M)) v a → Q v s2) →
    wpAny W.md A (pyNext (.ref I)) (fun r s1 => ∃ v, r = some v ∧ wpAny W.md A (letOwnedTupleGo tg (.ref I) v) (fun _ s2 => Q v s2) E s1) E s
  done : ∀ (s : Shared) (Q : Option Value → Shared → Prop) (E : Value → Shared → Prop), S l.length s.heap → (∀ s', Moves [I] s s' → Q none s') → wpAny W.md A (pyNext (.ref I)) Q E s

noncomputable def ItSelf (W : Wd) (A : Around) (I : Addr) (S : Nat → Heap → Prop) : Prop :=
  ∀ (s : Shared) (Q : Value → Shared → Prop) (E : Value → Shared → Prop), S 0 s.heap → Q (.ref I) s → wpAny W.md A (pyIter (.ref I)) Q E s

section
variable {W : Wd} {A : Around} {E : Value → Shared → Prop} {s : Shared} {M : List Addr} {I : Addr} {tg : PySem.Expr}

theorem moves_same {s : Shared} {I : Addr} {h : Heap} {t : Nat} (x : Heap.ExtBut I s.heap h) : Moves [I] s { s with heap := h, toks := t } :=
  moves_heap fun b o hb e => x b o (fun q => hb (by simp [q])) e

noncomputable def goNames : List String := ["enumerate", "zip", "dict_itemiterator", "dict_reverseitemiterator", "odict_iterator", "itertools.zip_longest", "itertools.pairwise"]

theorem letGo_plain {I : Addr} {v : Value} {o : Obj} {n : String} {vs : Array Value} {Q : Unit → Shared → Prop} (ho : s.heap.get? I = some o) (hc : o.cls = .type n) (hd : o.data = .fields vs) (hn : goNames.contains n = false) (h : Q () s) :
    wpAny W.md A (letOwnedTupleGo tg (.ref I) v) Q E s := by
  unfold letOwnedTupleGo
  split
  · split
    · rename_i r a hx; cases hx
      refine wpAny_bind (wpAny_load ho ?_)
      rw [hc, hd]
      show wpAny _ _ (if (goNames.contains n && _) = true then _ else _) _ _ _
      rw [hn, Bool.false_and, if_neg (by simp)]
      exact wpAny_pure h
    · exact wpAny_pure h
  · split
    · rename_i r a hx; cases hx
      refine wpAny_bind (wpAny_load ho ?_)
      rw [hc, hd]
      show wpAny _ _ (if (goNames.contains n && _) = true then _ else _) _ _ _
      rw [hn, Bool.false_and, if_neg (by simp)]
      exact wpAny_pure h
    · exact wpAny_pure h
  · exact wpAny_pure h

theorem gle_in {h h' : Heap} (k : ∀ b o, b ∉ M → h.get? b = some o → h'.get? b = some o) : GLe (vis h (I :: M)) (vis h' (I :: M)) :=
  gle_vis (fun b o hb e => k b o (fun q => hb (List.mem_cons_of_mem _ q)) e) fun _ q => .inl q
theorem gle_it {s s' : Shared} (x : Moves [I] s s') : GLe (vis s.heap (I :: M)) (vis s'.heap (I :: M)) :=
  gle_moves x fun a ha => by simp at ha; simp [ha]

/-- a list -/
theorem itp_list (hh : A.handled = none) {ax : Addr} {vs : Array Value} {l : List AV} (hne : ax ≠ I) (hIM : I ∉ M) (haM : ax ∉ M) :
    ItP W A M I tg l (fun i h => h.IsListIter I ax i ∧ h.IsList ax vs ∧ RpL W (vis h (I :: M)) vs.toList l) where
  alive := fun i h st => let ⟨o, ho, _⟩ := st.1; ⟨o, ho⟩
  keep := fun i h h' st k => ⟨st.1.at fun o e => k I o hIM e, st.2.1.at fun o e => k ax o haM e, st.2.2.mono (gle_in k)⟩
  turn := fun i a s Q E hbd ha st hQ => by
    obtain ⟨v, hv, rv⟩ := st.2.2.get ha
    refine wpAny_pyNext_list_item st.1 st.2.1 (x := v) (by simpa using hv) fun h' hit' hs' => ⟨v, rfl, ?_⟩
    have mv : Moves [I] s { s with heap := h' } := moves_same (t := s.toks) hs'.extBut
    obtain ⟨o, ho, hc, hd⟩ := id hit'
    exact letGo_plain ho hc hd (by decide) (hQ v _ mv ⟨hit', st.2.1.extBut hs'.extBut hne, st.2.2.mono (gle_it mv)⟩ (rv.mono (gle_it mv)))
  done := fun s Q E st hQ => by
    have z := st.2.2.length
    exact wpAny_pyNext_list_end hh st.1 st.2.1 (by simp; simp at z; lia) fun h' he' => hQ _ (moves_same (t := s.toks) he')

/-- a tuple -/
theorem itp_tup (hh : A.handled = none) {ax : Addr} {vs : Array Value} {l : List AV} (hne : ax ≠ I) (hIM : I ∉ M) (haM : ax ∉ M) :
    ItP W A M I tg l (fun i h => h.IsTupleIter I ax i ∧ h.IsTuple ax vs ∧ RpL W (vis h (I :: M)) vs.toList l) where
  alive := fun i h st => let ⟨o, ho, _⟩ := st.1; ⟨o, ho⟩
  keep := fun i h h' st k => ⟨st.1.at fun o e => k I o hIM e, st.2.1.at fun o e => k ax o haM e, st.2.2.mono (gle_in k)⟩
  turn := fun i a s Q E hbd ha st hQ => by
    obtain ⟨v, hv, rv⟩ := st.2.2.get ha
    refine wpAny_pyNext_tuple_item st.1 st.2.1 (x := v) (by simpa using hv) fun h' hit' hs' => ⟨v, rfl, ?_⟩
    have mv : Moves [I] s { s with heap := h' } := moves_same (t := s.toks) hs'.extBut
    obtain ⟨o, ho, hc, hd⟩ := id hit'
    exact letGo_plain ho hc hd (by decide) (hQ v _ mv ⟨hit', st.2.1.extBut hs'.extBut hne, st.2.2.mono (gle_it mv)⟩ (rv.mono (gle_it mv)))
  done := fun s Q E st hQ => by
    have z := st.2.2.length
    exact wpAny_pyNext_tuple_end hh st.1 st.2.1 (by simp; simp at z; lia) fun h' he' => hQ _ (moves_same (t := s.toks) he')

theorem Heap.IsStrIter.at' {h h' : Heap} {a ty x t i} (y : h.IsStrIter a ty x t i) (e : ∀ o, h.get? a = some o → h'.get? a = some o) : h'.IsStrIter a ty x t i := let ⟨o, ho, r⟩ := y; ⟨o, e _ ho, r⟩

/-- a text of ASCII signs -/
theorem itp_str (hh : A.handled = none) {x : Str} {t : Tok} (hIM : I ∉ M) :
    ItP W A M I tg (chars x) (fun i h => h.IsStrIter I "str_ascii_iterator" x t i) where
  alive := fun i h st => let ⟨o, ho, _⟩ := st; ⟨o, ho⟩
  keep := fun i h h' st k => Heap.IsStrIter.at' st fun o e => k I o hIM e
  turn := fun i a s Q E hbd ha st hQ => by
    have : ∃ c, x.cps[i]? = some c ∧ a = .str ⟨#[c]⟩ := by
      unfold chars at ha
      rw [List.getElem?_map] at ha
      obtain ⟨c, hc, rfl⟩ := Option.map_eq_some_iff.mp ha
      exact ⟨c, by simpa using hc, rfl⟩
    obtain ⟨c, hc, rfl⟩ := this
    refine wpAny_pyNext_ascii_item st hc fun h' hit' hs' => ⟨_, rfl, ?_⟩
    have mv : Moves [I] s { s with heap := h', toks := s.toks + 1 } := moves_same hs'.extBut
    obtain ⟨o, ho, hcl, hd⟩ := id hit'
    exact letGo_plain ho hcl hd (by decide) (hQ _ _ mv hit' (.str _ _))
  done := fun s Q E st hQ => by
    refine wpAny_pyNext_ascii_end hh st ?_ fun h' he' => hQ _ (moves_same (t := s.toks) he')
    simp [chars]

/-- ints rising or falling by a step -/
theorem itp_range (hh : A.handled = none) {x0 c : Int} {n : Nat} (hIM : I ∉ M) :
    ItP W A M I tg ((List.range n).map fun i => .int (x0 + (i : Nat) * c)) (fun i h => IsRangeIter h I (x0 + (i : Nat) * c) ((n : Int) - (i : Nat)) c) where
  alive := fun i h st => ⟨_, st⟩
  keep := fun i h h' st k => k I _ hIM st
  turn := fun i a s Q E hbd ha st hQ => by
    have : i < n ∧ a = .int (x0 + (i : Nat) * c) := by
      rw [List.getElem?_map] at ha
      obtain ⟨j, hj, rfl⟩ := Option.map_eq_some_iff.mp ha
      obtain ⟨h1, h2⟩ := List.getElem?_eq_some_iff.mp hj
      simp at h1 h2
      subst h2
      exact ⟨h1, rfl⟩
    obtain ⟨hi, rfl⟩ := this
    refine wpAny_pyNext_range_item st (by lia) fun h' hit' hs' => ⟨_, rfl, ?_⟩
    have mv : Moves [I] s { s with heap := h', toks := s.toks + 1 } := moves_same hs'.extBut
    have e1 : x0 + ((i + 1 : Nat) : Int) * c = x0 + (i : Int) * c + c := by push_cast; rw [Int.add_mul, Int.one_mul, Int.add_assoc]
    have e2 : (n : Int) - ((i + 1 : Nat) : Int) = (n : Int) - (i : Int) - 1 := by push_cast; lia
    refine letGo_plain hit' rfl rfl (by decide) (hQ _ _ mv ?_ (.int _ _))
    show IsRangeIter h' I _ _ c
    rw [e1, e2]; exact hit'
  done := fun s Q E st hQ => by
    refine wpAny_pyNext_range_end hh st (by simp) fun h' he' => hQ _ (moves_same (t := s.toks) he')

/-- a dict's keys -/
theorem itp_keys (hh : A.handled = none) {d : Addr} {kvs : List (Str × Value)} {ep : Nat} {l : List (Str × AV)} (hne : d ≠ I) (hIM : I ∉ M) (haM : d ∉ M) :
    ItP W A M I tg (l.map fun p => .str p.1) (fun i h => h.IsKeyIter I d i kvs.length ep ∧ h.DictAt W.kd d kvs ep ∧ RpD W (vis h (I :: M)) kvs l) where
  alive := fun i h st => let ⟨o, ho, _⟩ := st.1; ⟨o, ho⟩
  keep := fun i h h' st k => ⟨st.1.at fun o e => k I o hIM e, st.2.1.at' fun o e => k d o haM e, st.2.2.mono (gle_in k)⟩
  turn := fun i a s Q E hbd ha st hQ => by
    have : ∃ k v, kvs[i]? = some (k, v) ∧ a = .str k := by
      have hk := st.2.2.keys
      rw [List.getElem?_map] at ha
      obtain ⟨p, hp, rfl⟩ := Option.map_eq_some_iff.mp ha
      have h1 : (l.map (·.1))[i]? = some p.1 := by rw [List.getElem?_map, hp]; rfl
      rw [← hk, List.getElem?_map] at h1
      obtain ⟨q, hq, e⟩ := Option.map_eq_some_iff.mp h1
      exact ⟨q.1, q.2, hq, by rw [← e]⟩
    obtain ⟨k, v, hkv, rfl⟩ := this
    refine wpAny_pyNext_dict_item (knd := W.kd) st.1 st.2.1 hkv fun key h' hkey hit' hs' => ?_
    obtain ⟨t, rfl⟩ := Value.isStrOf_shape hkey
    refine ⟨_, rfl, ?_⟩
    have mv : Moves [I] s { s with heap := h' } := moves_same (t := s.toks) hs'.extBut
    obtain ⟨o, ho, hc, hd⟩ := id hit'
    exact letGo_plain ho hc hd (by decide) (hQ _ _ mv ⟨hit', st.2.1.extBut hs'.extBut hne, st.2.2.mono (gle_it mv)⟩ (.str _ _))
  done := fun s Q E st hQ => by
    have z := st.2.2.length
    exact wpAny_pyNext_dict_end (knd := W.kd) hh st.1 st.2.1 (by simp; lia) fun h' he' => hQ _ (moves_same (t := s.toks) he')

/-- a dict's values -/
theorem itp_vals (hh : A.handled = none) {d : Addr} {kvs : List (Str × Value)} {ep : Nat} {l : List (Str × AV)} (hne : d ≠ I) (hIM : I ∉ M) (haM : d ∉ M) :
    ItP W A M I tg (l.map (·.2)) (fun i h => h.IsValIter I d i kvs.length ep ∧ h.DictAt W.kd d kvs ep ∧ RpD W (vis h (I :: M)) kvs l) where
  alive := fun i h st => let ⟨o, ho, _⟩ := st.1; ⟨o, ho⟩
  keep := fun i h h' st k => ⟨st.1.at fun o e => k I o hIM e, st.2.1.at' fun o e => k d o haM e, st.2.2.mono (gle_in k)⟩
  turn := fun i a s Q E hbd ha st hQ => by
    obtain ⟨v, hv, rv⟩ := st.2.2.vals.get ha
    rw [List.getElem?_map] at hv
    obtain ⟨⟨k, v'⟩, hkv, e⟩ := Option.map_eq_some_iff.mp hv
    (first | exact none_ne e | obtain rfl := Option.some.inj e | cases e)
    refine wpAny_pyNext_values_item (knd := W.kd) st.1 st.2.1 hkv fun h' hit' hs' => ⟨_, rfl, ?_⟩
    have mv : Moves [I] s { s with heap := h' } := moves_same (t := s.toks) hs'.extBut
    obtain ⟨o, ho, hc, hd⟩ := id hit'
    exact letGo_plain ho hc hd (by decide) (hQ _ _ mv ⟨hit', st.2.1.extBut hs'.extBut hne, st.2.2.mono (gle_it mv)⟩ (rv.mono (gle_it mv)))
  done := fun s Q E st hQ => by
    have z := st.2.2.length
    exact wpAny_pyNext_values_end (knd := W.kd) hh st.1 st.2.1 (by simp; lia) fun h' he' => hQ _ (moves_same (t := s.toks) he')

theorem rpd_get : ∀ {kvs : List (Str × Value)} {l : List (Str × AV)} {g : G}, RpD W g kvs l → ∀ {i : Nat} {k : Str} {a : AV}, l[i]? = some (k, a) → ∃ v, kvs[i]? = some (k, v) ∧ Rp W g v a
  | _, _, _, .nil, _, _, _, e => by simp at e
  | _, _, _, .cons h1 _, 0, _, _, e => by simp at e; obtain ⟨rfl, rfl⟩ := e; exact ⟨_, rfl, h1⟩
  | _, _, _, .cons _ h2, i + 1, _, _, e => by
    obtain ⟨v, hv, r⟩ := rpd_get h2 (i := i) (by simpa using e)
    exact ⟨v, by simpa using hv, r⟩

/-- a dict's pairs, the target a tuple -/
theorem itp_items (hh : A.handled = none) {d : Addr} {kvs : List (Str × Value)} {ep : Nat} {l : List (Str × AV)} (hne : d ≠ I) (hIM : I ∉ M) (haM : d ∉ M) (ht : isTupT tg = true) :
    ItP W A M I tg (l.map fun p => .tup [.str p.1, p.2]) (fun i h => (∃ ok ov, IsItemIter h I d i kvs.length ep ok ov) ∧ h.DictAt W.kd d kvs ep ∧ RpD W (vis h (I :: M)) kvs l) where
  alive := fun i h st => let ⟨ok, ov, e⟩ := st.1; ⟨_, e⟩
  keep := fun i h h' st k => ⟨let ⟨ok, ov, e⟩ := st.1; ⟨ok, ov, k I _ hIM e⟩, st.2.1.at' fun o e => k d o haM e, st.2.2.mono (gle_in k)⟩
  turn := fun i a s Q E hbd ha st hQ => by
    obtain ⟨⟨ok, ov, hit⟩, hd, hr⟩ := st
    rw [List.getElem?_map] at ha
    obtain ⟨⟨k, b⟩, hp, rfl⟩ := Option.map_eq_some_iff.mp ha
    obtain ⟨v, hv, rv⟩ := rpd_get hr hp
    refine wpAny_pyNext_items_item (knd := W.kd) hit hd hv fun key h' hkey hout hT hsz hk => ?_
    obtain ⟨t, rfl⟩ := Value.isStrOf_shape hkey
    refine ⟨_, rfl, ?_⟩
    have hTI : s.heap.objs.size ≠ I := Nat.ne_of_gt (Heap.lt_size hit)
    cases tg with
    | Tuple elts k2 pos =>
      refine wpAny_letOwnedTupleGo_items hout fun h2 hit2 hs2 => ?_
      have mv : Moves [I] s { s with heap := h2 } := moves_same (t := s.toks) fun b o hb e => hs2.extBut b o hb (hk b o hb e)
      refine hQ _ _ mv ⟨⟨_, _, hit2⟩, (hd.at' fun o e => hk d o hne e).extBut hs2.extBut hne, hr.mono (gle_it mv)⟩ (.tup (vs := #[.str k t, v]) (n := 0) ?_ ?_)
      · refine vis_iff.mpr ⟨fun q => ?_, hs2.extBut _ _ hTI hT⟩
        rcases List.mem_cons.mp q with q | q
        · exact hTI q
        · exact hbd.new q
      · exact .cons (.str _ _) (.cons (rv.mono (gle_it mv)) .nil)
    | _ => cases ht
  done := fun s Q E st hQ => by
    obtain ⟨⟨ok, ov, hit⟩, hd, hr⟩ := st
    have z := hr.length
    rw [List.length_map, ← z] at hit
    exact wpAny_pyNext_items_end (knd := W.kd) hh hit hd (by simp) fun h' he' => hQ _ (moves_same (t := s.toks) he')

theorem self_list {ax : Addr} {P : Heap → Prop} : ItSelf W A I (fun i h => h.IsListIter I ax i ∧ P h) := fun s Q E st hQ => wpAny_pyIter_listiter st.1 hQ
theorem self_tup {ax : Addr} {P : Heap → Prop} : ItSelf W A I (fun i h => h.IsTupleIter I ax i ∧ P h) := fun s Q E st hQ => wpAny_pyIter_tupleiter st.1 hQ
theorem self_str {x : Str} {t : Tok} : ItSelf W A I (fun i h => h.IsStrIter I "str_ascii_iterator" x t i) := fun s Q E st hQ => wpAny_pyIter_striter_ascii st hQ
theorem self_range {x0 c : Int} {n : Nat} : ItSelf W A I (fun i h => IsRangeIter h I (x0 + (i : Nat) * c) ((n : Int) - (i : Nat)) c) := fun s Q E st hQ => wpAny_pyIter_rangeiter st hQ
theorem self_keys {d : Addr} {n ep : Nat} {P : Heap → Prop} : ItSelf W A I (fun i h => h.IsKeyIter I d i n ep ∧ P h) := fun s Q E st hQ => wpAny_pyIter_keyiter st.1 hQ
theorem self_vals {d : Addr} {n ep : Nat} {P : Heap → Prop} : ItSelf W A I (fun i h => h.IsValIter I d i n ep ∧ P h) := fun s Q E st hQ => wpAny_pyIter_valiter st.1 hQ

/-- an iterator over a frozen value; X: addresses that are yet to come -/
noncomputable def Iters (W : Wd) (A : Around) (M X : List Addr) (tg : PySem.Expr) (src : AV) (l : List AV) (s : Shared) : Value → Shared → Prop := fun it s' =>
  ∃ I S, it = .ref I ∧ I = s.heap.objs.size ∧ s'.heap.objs.size = s.heap.objs.size + 1 ∧ (∃ o, s'.heap.get? I = some o) ∧ I ∉ X ++ M ∧ Kept s s' ∧ (∀ A' : Around, A'.handled = none → ItP W A' (X ++ M) I tg l S) ∧ (noItems src = true → ∀ A' : Around, ItSelf W A' I S) ∧ S 0 s'.heap

theorem get_new (h : Heap) : h.get? h.objs.size = none := fresh_none h _ (Nat.le_refl _)

theorem in_new {X : List Addr} (hX : ∀ a ∈ X, s.heap.objs.size < a) {a : Addr} (ha : a ∈ s.heap.objs.size :: (X ++ M)) : a ∈ M ∨ s.heap.get? a = none := by
  rcases List.mem_cons.mp ha with rfl | q
  · exact .inr (get_new _)
  · rcases List.mem_append.mp q with q | q
    · exact .inr (fresh_none _ _ (Nat.le_of_lt (hX a q)))
    · exact .inl q
theorem rpl_new {X : List Addr} (hX : ∀ a ∈ X, s.heap.objs.size < a) {o : Obj} {vs : List Value} {l : List AV} (r : RpL W (vis s.heap M) vs l) : RpL W (vis (s.heap.push o) (s.heap.objs.size :: (X ++ M))) vs l :=
  r.mono (gle_vis (fun b o _ e => Heap.get?_push_of_some _ e) fun a ha => in_new hX ha)
theorem rpd_new {X : List Addr} (hX : ∀ a ∈ X, s.heap.objs.size < a) {o : Obj} {vs : List (Str × Value)} {l : List (Str × AV)} (r : RpD W (vis s.heap M) vs l) : RpD W (vis (s.heap.push o) (s.heap.objs.size :: (X ++ M))) vs l :=
  r.mono (gle_vis (fun b o _ e => Heap.get?_push_of_some _ e) fun a ha => in_new hX ha)

theorem small_range {n : Int} (h : small n = true) : Builtin.Range.small 0 n 1 = true := by
  have := small_spec h
  have e : Builtin.Range.rangeSize 0 n 1 = n := by
    unfold Builtin.Range.rangeSize
    simp
    lia
  have f : ∀ k : Int, -1 ≤ k → k < 1000001 → Builtin.Range.rangeFitsLong k = true := fun k h1 h2 => by
    unfold Builtin.Range.rangeFitsLong
    simp
    lia
  unfold Builtin.Range.small
  rw [e]
  simp [f 0 (by lia) (by lia), f n (by lia) (by lia), f 1 (by lia) (by lia)]
theorem rangeSize_of {n : Int} (h : 0 ≤ n) : Builtin.Range.rangeSize 0 n 1 = n := by
  unfold Builtin.Range.rangeSize
  simp
  lia

theorem iter_okX (hb : Bd M s.heap) {X : List Addr} (hX : ∀ a ∈ X, s.heap.objs.size < a) {v : Value} {src : AV} {l : List AV} (r : Rp W (vis s.heap M) v src) (e : iterA tg src = some l) : wpAny W.md A (pyIter v) (Iters W A M X tg src l s) E s := by
  have hn : s.heap.objs.size ∉ X ++ M := fun q => by
    rcases List.mem_append.mp q with q | q
    · exact Nat.lt_irrefl _ (hX _ q)
    · exact hb.new q
  have old : ∀ {a : Addr} {o : Obj}, a ∉ M → s.heap.get? a = some o → a ∉ X ++ M := fun h1 h2 q => by
    rcases List.mem_append.mp q with q | q
    · exact absurd (Heap.lt_size h2) (Nat.not_lt.mpr (Nat.le_of_lt (hX _ q)))
    · exact h1 q
  cases r with
  | list h1 h2 =>
    obtain rfl := Option.some.inj e
    obtain ⟨h1a, h1b⟩ := vis_iff.mp h1
    have hl : s.heap.IsList _ _ := ⟨_, h1b, rfl, _, rfl⟩
    have hne := Nat.ne_of_lt (Heap.lt_size h1b)
    exact wpAny_pyIter_list hl ⟨_, _, rfl, rfl, Heap.size_push .., ⟨_, Heap.get?_push_size _ rfl⟩, hn, kept_push _, fun A' hh => itp_list hh hne hn (old h1a h1b), fun _ A' => self_list,
      ⟨⟨_, Heap.get?_push_size _ rfl, rfl, rfl⟩, hl.push _, rpl_new hX h2⟩⟩
  | tup h1 h2 =>
    obtain rfl := Option.some.inj e
    obtain ⟨h1a, h1b⟩ := vis_iff.mp h1
    have hl : s.heap.IsTuple _ _ := ⟨_, h1b, rfl, _, rfl⟩
    have hne := Nat.ne_of_lt (Heap.lt_size h1b)
    exact wpAny_pyIter_tuple hl ⟨_, _, rfl, rfl, Heap.size_push .., ⟨_, Heap.get?_push_size _ rfl⟩, hn, kept_push _, fun A' hh => itp_tup hh hne hn (old h1a h1b), fun _ A' => self_tup,
      ⟨⟨_, Heap.get?_push_size _ rfl, rfl, rfl⟩, hl.push _, rpl_new hX h2⟩⟩
  | str x t =>
    refine ifs e fun ha e => ?_
    obtain rfl := Option.some.inj e
    exact wpAny_pyIter_ascii ha ⟨_, _, rfl, rfl, Heap.size_push .., ⟨_, Heap.get?_push_size _ rfl⟩, hn, kept_push _, fun A' hh => itp_str hh hn, fun _ A' => self_str, ⟨_, Heap.get?_push_size _ rfl, rfl, rfl⟩⟩
  | dict h1 h2 h3 h4 =>
    obtain rfl := Option.some.inj e
    obtain ⟨h1a, h1b⟩ := vis_iff.mp h1
    have hd : s.heap.DictOf W.kd _ _ := Heap.dictOf_iff.mpr ⟨_, h1b, h2⟩
    obtain ⟨ep, hda⟩ := hd.dictAt
    have hne := Nat.ne_of_lt (Heap.lt_size h1b)
    exact wpAny_pyIter_dict (knd := W.kd) h3 hda ⟨_, _, rfl, rfl, Heap.size_push .., ⟨_, Heap.get?_push_size _ rfl⟩, hn, kept_push _, fun A' hh => itp_keys hh hne hn (old h1a h1b), fun _ A' => self_keys,
      ⟨⟨_, Heap.get?_push_size _ rfl, rfl, rfl⟩, hda.push _, rpd_new hX h4⟩⟩
  | @rng _ n _ _ _ h1 =>
    refine ifs e fun hs e => ?_
    obtain rfl := Option.some.inj e
    have h0 := small_spec hs
    obtain ⟨h1a, h1b⟩ := vis_iff.mp h1
    refine wpAny_pyIter_range h1b (small_range hs) ?_
    have e1 : ((List.range n.toNat).map fun i => AV.int (i : Nat)) = (List.range n.toNat).map fun i => .int (0 + (i : Nat) * 1) := by
      apply List.map_congr_left; intro i _; simp
    rw [e1]
    refine ⟨_, _, rfl, rfl, Heap.size_push .., ⟨_, Heap.get?_push_size _ rfl⟩, hn, kept_push _, fun A' hh => itp_range (x0 := 0) (c := 1) (n := n.toNat) hh hn, fun _ A' => self_range, ?_⟩
    show IsRangeIter _ _ _ _ _
    rw [rangeSize_of h0.1]
    simp only [Int.natCast_zero, Int.zero_mul, Int.add_zero, Int.sub_zero]
    rw [Int.toNat_of_nonneg h0.1]
    exact Heap.get?_push_size _ rfl
  | items h1 h2 h3 h4 =>
    refine ifs e fun ht e => ?_
    obtain rfl := Option.some.inj e
    cases h4 with
    | dict g1 g2 g3 g4 =>
      obtain ⟨h1a, h1b⟩ := vis_iff.mp h1
      obtain ⟨g1a, g1b⟩ := vis_iff.mp g1
      have hd : s.heap.DictOf W.kd _ _ := Heap.dictOf_iff.mpr ⟨_, g1b, g2⟩
      obtain ⟨ep, hda⟩ := hd.dictAt
      have hne := Nat.ne_of_lt (Heap.lt_size g1b)
      exact wpAny_pyIter_items (knd := W.kd) ⟨_, h1b, h2, h3⟩ hda ⟨_, _, rfl, rfl, Heap.size_push .., ⟨_, Heap.get?_push_size _ rfl⟩, hn, kept_push _, fun A' hh => itp_items hh hne hn (old g1a g1b) ht, fun h => (by cases h),
        ⟨⟨_, _, Heap.get?_push_size _ rfl⟩, hda.push _, rpd_new hX g4⟩⟩
  | values h1 h2 h3 h4 =>
    obtain rfl := Option.some.inj e
    cases h4 with
    | dict g1 g2 g3 g4 =>
      obtain ⟨h1a, h1b⟩ := vis_iff.mp h1
      obtain ⟨g1a, g1b⟩ := vis_iff.mp g1
      have hd : s.heap.DictOf W.kd _ _ := Heap.dictOf_iff.mpr ⟨_, g1b, g2⟩
      obtain ⟨ep, hda⟩ := hd.dictAt
      have hne := Nat.ne_of_lt (Heap.lt_size g1b)
      exact wpAny_pyIter_values (knd := W.kd) ⟨_, h1b, h2, h3⟩ hda ⟨_, _, rfl, rfl, Heap.size_push .., ⟨_, Heap.get?_push_size _ rfl⟩, hn, kept_push _, fun A' hh => itp_vals hh hne hn (old g1a g1b), fun _ A' => self_vals,
        ⟨⟨_, Heap.get?_push_size _ rfl, rfl, rfl⟩, hda.push _, rpd_new hX g4⟩⟩
  | none => exact none_ne e
  | bool => exact none_ne e
  | int => exact none_ne e
  | inst => exact none_ne e

theorem iter_ok (hb : Bd M s.heap) {v : Value} {src : AV} {l : List AV} (r : Rp W (vis s.heap M) v src) (e : iterA tg src = some l) : wpAny W.md A (pyIter v) (Iters W A M [] tg src l s) E s :=
  iter_okX hb (X := []) (by intro _ h; cases h) r e
end
end Mine

end

/-! part Ops4 -/
section
set_option maxRecDepth 10000
set_option autoImplicit false
set_option linter.unusedVariables false
namespace Mine
open PySem PySem.W PyProof.Rows

section
variable {W : Wd} {A : Around} {E : Value → Shared → Prop} {s : Shared} {M : List Addr} {va vb : Value}

theorem len_ok {a : AR} {n : Int} (e : lenA a.v = some n) (hs : small n = true) (ra : ARel W s.heap M va a) : wpAny W.md A (call (.builtin "len") [va]) (Gives' W M s (.int n)) E s := by
  obtain ⟨a, oa⟩ := a
  have h := small_spec hs
  cases a with
  | list l =>
    obtain rfl := Option.some.inj e
    obtain ⟨x, rfl, hx⟩ := ra.lst
    obtain ⟨vs, hl, r, z⟩ := hx.list
    refine Calls.call_len_list hl (by lia) ?_
    rw [z]; exact gInt
  | str x =>
    obtain rfl := Option.some.inj e
    obtain ⟨t, rfl⟩ := ra.str
    exact P.len_str (by lia) gInt
  | _ => exact none_ne e

theorem range_ok (hb : Bd M s.heap) {n : Int} {a : AR} (e : asInt a.v = some n) (ra : ARel W s.heap M va a) : wpAny W.md A (call (.type "range") [va]) (Gives' W M s (.rng n)) E s := by
  obtain ⟨t, rfl⟩ := ra.int' e
  exact call_range_1 ⟨(kept_push _).trans (kept_toks _), .rng (hb.push _)⟩

/-! reversed(range(n)) -/

noncomputable def rIter (n : Int) : Obj := { cls := .type "range_iterator", data := .fields #[rawInt (n - 1), rawInt n, rawInt (-1)] }

theorem call_range_reversed {l : Addr} {n : Int} {t u v : Tok} {Q : Value → Shared → Prop} (hl : IsRange s.heap l 0 n 1 t u v) (hs : small n = true)
    (h : Q (.ref s.heap.objs.size) { s with heap := s.heap.push (rIter n) }) : wpAny W.md A (call (.builtin "range.__reversed__") [.ref l]) Q E s := by
  have hn := small_spec hs
  refine wpAny_call_entry PySem.F.slot_range_reversed (T := "range") ⟨_, hl, rfl⟩ PySem.F.entry_range_reversed ?_ (PySem.F.args_range_reversed_1 _)
  unfold Builtin.«range.__reversed__»
  refine wpAny_bind (wpAny_of_eq (a := Value.ref l) rfl ?_)
  refine wpAny_bind (m := Builtin.Range.rangeFields (.ref l)) ?_
  unfold Builtin.Range.rangeFields
  refine wpAny_bind (wpAny_field hl rfl (x := .int 0 t) rfl (wpAny_bind (wpAny_of_eq (a := some 0) rfl ?_)))
  refine wpAny_bind (wpAny_field hl rfl (x := .int n u) rfl (wpAny_bind (wpAny_of_eq (a := some n) rfl ?_)))
  refine wpAny_bind (wpAny_field hl rfl (x := .int 1 v) rfl (wpAny_bind (wpAny_of_eq (a := some 1) rfl ?_)))
  refine wpAny_pure ?_
  have f : ∀ k : Int, -2 ≤ k → k < 1000001 → Builtin.Range.rangeFitsLong k = true := fun k h1 h2 => by
    unfold Builtin.Range.rangeFitsLong
    simp
    lia
  have e : Builtin.Range.rangeSize 0 n 1 = n := rangeSize_of hn.1
  simp only [e, f 0 (by lia) (by lia), f n (by lia) (by lia), f 1 (by lia) (by lia), f (-1) (by lia) (by lia), f (0 - 1) (by lia) (by lia), Bool.and_self, Bool.not_true, Bool.false_eq_true, if_false, if_true]
  refine wpAny_bind (wpAny_newObj_type (wpAny_pure ⟨_, rfl, ?_⟩))
  simpa [rIter] using h

theorem sub_ri_reversed : isSubtype (.type "range_iterator") (.type "reversed") = pure false := by rw [isSubtype_type]; kernel_rfl

theorem code_reversed_range {l : Addr} {n : Int} {t u v : Tok} {Q₁ : Value → Shared → Prop} (hl : IsRange s.heap l 0 n 1 t u v) (hs : small n = true)
    (h : Q₁ (.ref s.heap.objs.size) { s with heap := s.heap.push (rIter n) }) :
    codeAny W.md A (.call (.builtin "reversed.__new__") ⟨[.type "reversed", .ref l], []⟩) (wants Q₁ E) s := by
  have hT : s.TypeIs (.ref l) "range" := ⟨_, hl, rfl⟩
  refine codeAny_of_tree ?_
  show wpAny _ A.in1 (do checkBuiltinCall "reversed.__new__" ⟨[.type "reversed", .ref l], []⟩; again (.builtin "reversed.__new__" ⟨[.type "reversed", .ref l], []⟩)) _ _ s
  refine wpAny_bind (wpAny_of_eq (PySem.F.newCall_reversed_1 _) (wpAny_pure ⟨plainId_quiet PySem.F.plain_reversed_new _, codeAny_builtin PySem.F.entry_reversed_new ?_⟩))
  rw [Around.under_plainId PySem.F.plain_reversed_new _]
  unfold Builtin.«reversed.__new__»
  refine wpAny_bind (wpAny_of_eq (newClass_reversed _) ?_)
  try dsimp only
  refine wpAny_bind (wpAny_of_eq (a := ()) (by first | rfl | kernel_rfl) ?_)
  refine wpAny_bind (wpAny_of_eq (a := ()) (by first | rfl | kernel_rfl) ?_)
  try dsimp only
  refine wpAny_bind (wpAny_specialOf hT PySem.F.slot_range_reversed.lookup ?_)
  try dsimp only
  refine wpAny_bind (wpAny_of_eq (PySem.F.slot_range_reversed.bind _) ?_)
  try dsimp only
  first
  | rw [if_neg (show ¬ ((Value.builtin "range.__reversed__" == Value.none) = true) from Bool.false_ne_true)]
  | (show wpAny _ _ (if (Value.builtin "range.__reversed__" == Value.none) = true then _ else _) _ _ _; rw [if_neg (show ¬ ((Value.builtin "range.__reversed__" == Value.none) = true) from Bool.false_ne_true)])
  refine wpAny_bind (wpAny_rule ?_)
  refine wpAny_bind (m := runValue (.call (.builtin "range.__reversed__") ⟨[.ref l], []⟩)) (show wpAny _ _ (call (.builtin "range.__reversed__") [.ref l]) _ _ _ from call_range_reversed hl hs ?_)
  first
  | exact wpAny_pure h
  | exact wpAny_bind (wpAny_pure (wpAny_pure h))

theorem call_reversed_range {l : Addr} {n : Int} {t u v : Tok} {Q : Value → Shared → Prop} (hl : IsRange s.heap l 0 n 1 t u v) (hs : small n = true)
    (h : Q (.ref s.heap.objs.size) { s with heap := s.heap.push (rIter n) }) : wpAny W.md A (call (.type "reversed") [.ref l]) Q E s := by
  refine callType_other (U := "range_iterator") (Q₁ := fun obj s₁ => obj = .ref s.heap.objs.size ∧ s₁ = { s with heap := s.heap.push (rIter n) }) (by decide +kernel) PySem.F.create_reversed ⟨_, _, PySem.F.mro_reversed⟩ PySem.F.made_reversed sub_ri_reversed (PySem.F.typeCall_reversed_1 _) (code_reversed_range hl hs ⟨rfl, rfl⟩) ?_
  rintro obj s₁ ⟨rfl, rfl⟩
  exact ⟨⟨_, Heap.get?_push_size _ rfl, rfl⟩, h⟩

theorem rev_list (n : Nat) : ((List.range n).reverse.map fun i => AV.int (i : Nat)) = (List.range n).map fun i => AV.int (((n : Int) - 1) + (i : Nat) * (-1)) := by
  apply List.ext_getElem
  · simp
  · intro i h1 h2
    simp at h1 h2
    simp
    lia

/-! sums -/

theorem ints_of : ∀ {vs : List Value} {l : List AV} {is : List Int} {g : G}, RpL W g vs l → asInts l = some is → vs.length = is.length ∧ ∀ i v, vs[i]? = some v → ∃ t, v = Value.int (is.getD i 0) t
  | _, _, _, _, .nil, e => by obtain rfl := Option.some.inj e; exact ⟨rfl, fun i v h => none_ne h⟩
  | _, _, _, _, .cons (a := a) h1 h2, e => by
    refine bnd e fun i q e => mpd e fun js hj hx => ?_
    obtain rfl : a = .int i := asInt_inv q
    obtain ⟨t, rfl⟩ := h1.int_inv
    subst hx
    obtain ⟨h3, h4⟩ := ints_of h2 hj
    refine ⟨congrArg Nat.succ h3, fun k v hv => ?_⟩
    cases k with
    | zero => obtain rfl := Option.some.inj hv; exact ⟨t, rfl⟩
    | succ k => exact h4 k v hv

theorem sum_bound : ∀ (is : List Int), is.all small = true → 0 ≤ is.sum ∧ is.sum ≤ is.length * 1000000
  | [], _ => by simp
  | i :: is, h => by
    simp only [List.all_cons, Bool.and_eq_true] at h
    have h1 := small_spec h.1
    have h2 := sum_bound is h.2
    simp only [List.sum_cons, List.length_cons]
    push_cast
    lia

theorem fits_of {is : List Int} (h : is.all small = true) (hl : is.length ≤ 4096) : ∀ j, j < is.length → InLong (is.getD j 0) ∧ InLong (preSum (fun i => is.getD i 0) (j + 1)) := fun j hj => by
  rw [preSum_getD]
  have h1 : (is.take (j + 1)).all small = true := by
    rw [List.all_eq_true] at h ⊢
    exact fun x hx => h x (List.mem_of_mem_take hx)
  have h2 := sum_bound _ h1
  have h3 : (is.take (j + 1)).length ≤ 4096 := Nat.le_trans (by rw [List.length_take]; lia) hl
  have h4 : small (is.getD j 0) = true := by
    rw [List.all_eq_true] at h
    refine h _ ?_
    rw [List.getD_eq_getElem?_getD, List.getElem?_eq_getElem hj]
    simp
  have h5 := small_spec h4
  unfold InLong
  lia

theorem sum_list_ok (hh : A.handled = none) {l : List AV} {b : Bool} {is : List Int} (e : asInts l = some is) (hs : is.all small = true) (hl : is.length ≤ 4096) (ra : ARel W s.heap M va ⟨.list l, b⟩) :
    wpAny W.md A (call (.builtin "sum") [va]) (Gives' W M s (.int (sumInts is))) E s := by
  obtain ⟨x, rfl, hx⟩ := ra.lst
  obtain ⟨vs, hli, r, z⟩ := hx.list
  obtain ⟨hlen, hv⟩ := ints_of r e
  obtain ⟨o, ho, _⟩ := id hli
  have hne := Nat.ne_of_lt (Heap.lt_size ho)
  refine call_sum_walk (wpAny_pyIter_list hli ⟨_, _, _, _, _, _, fun i => is.getD i 0, rfl, Walks.list (A := A.in1) hh _ x hne vs, ⟨⟨_, Heap.get?_push_size _ rfl, rfl, rfl⟩, hli.push _⟩, ?_, ?_, ?_, ?_⟩)
  · intro c hc
    show c < (s.heap.push _).objs.size
    rw [Heap.size_push]
    simp at hc
    rcases hc with rfl | rfl
    · exact Nat.lt_succ_self _
    · exact Nat.lt_succ_of_lt (Heap.lt_size ho)
  · intro i v hi
    exact hv i v (by simpa using hi)
  · have : vs.size = is.length := by simpa using hlen
    rw [this]
    exact fits_of hs hl
  · intro h' tk t' k
    have : vs.size = is.length := by simpa using hlen
    rw [this, preSum_getD, List.take_length]
    have k0 : Kept s { s with heap := s.heap.push { cls := .type "list_iterator", data := .fields #[.ref x, .int 0 0] } } := kept_push _
    refine ⟨⟨h', tk, rfl, fun b o _ e => k b o (fun q => ?_) (Heap.get?_push_of_some _ e)⟩, .int _ _⟩
    simp at q
    subst q
    exact absurd (Heap.lt_size e) (Nat.lt_irrefl _)

theorem sum_vals_ok (hh : A.handled = none) {d : List (Str × AV)} {b : Bool} {ps : List (Str × Int)} (e : dictInts d = some ps) (hs : (ps.map (·.2)).all small = true) (hl : ps.length ≤ 4096) (ra : ARel W s.heap M va ⟨.values d, b⟩) :
    wpAny W.md A (call (.builtin "sum") [va]) (Gives' W M s (.int (sumInts (ps.map (·.2))))) E s := by
  cases b with
  | true => obtain ⟨a, _, _, o⟩ := ra; exact o.elim
  | false =>
    cases ra with
    | values h1 h2 h3 h4 =>
      cases h4 with
      | dict g1 g2 g3 g4 =>
        obtain ⟨h1a, h1b⟩ := vis_iff.mp h1
        obtain ⟨g1a, g1b⟩ := vis_iff.mp g1
        have hd : s.heap.DictOf W.kd _ _ := Heap.dictOf_iff.mpr ⟨_, g1b, g2⟩
        obtain ⟨ep, hda⟩ := hd.dictAt
        have hne := Nat.ne_of_lt (Heap.lt_size g1b)
        obtain ⟨ts, hts, ek⟩ := dictInts_of g4 e
        rename_i dx _ kvs
        have hkl : kvs.length = ps.length := by rw [ek]; simp [hts]
        refine call_sum_walk (wpAny_pyIter_values (knd := W.kd) ⟨_, h1b, h2, h3⟩ hda ⟨_, _, _, _, _, _, fun i => (ps.map (·.2)).getD i 0, rfl, Walks.dictValues (A := A.in1) (knd := W.kd) hh _ _ hne kvs ep, ⟨⟨_, Heap.get?_push_size _ rfl, rfl, rfl⟩, hda.push _⟩, ?_, ?_, ?_, ?_⟩)
        · intro c hc
          show c < (s.heap.push _).objs.size
          rw [Heap.size_push]
          simp at hc
          rcases hc with rfl | rfl
          · exact Nat.lt_succ_self _
          · exact Nat.lt_succ_of_lt (Heap.lt_size g1b)
        · rintro i v ⟨k, hk⟩
          rw [ek, List.getElem?_map] at hk
          obtain ⟨p, hp, e2⟩ := Option.map_eq_some_iff.mp hk
          cases e2
          rw [List.getElem?_zip_eq_some] at hp
          refine ⟨p.2, ?_⟩
          show Value.int p.1.2 p.2 = Value.int ((ps.map (·.2)).getD i 0) p.2
          rw [List.getD_eq_getElem?_getD, List.getElem?_map, hp.1]
          rfl
        · rw [hkl]
          have := fits_of hs (by simpa using hl)
          simpa using this
        · intro h' tk t' k
          rw [hkl, show ps.length = (ps.map (·.2)).length by simp, preSum_getD, List.take_length]
          refine ⟨⟨h', tk, rfl, fun b o _ e => k b o (fun q => ?_) (Heap.get?_push_of_some _ e)⟩, .int _ _⟩
          simp at q
          subst q
          exact absurd (Heap.lt_size e) (Nat.lt_irrefl _)

theorem sum_ok (hh : A.handled = none) {a : AR} {c : AV} (e : sumA a.v = some c) (ra : ARel W s.heap M va a) : wpAny W.md A (call (.builtin "sum") [va]) (Gives' W M s c) E s := by
  obtain ⟨a, b⟩ := a
  cases a with
  | list l =>
    refine bnd e fun is h1 e => ifs e fun hs e => ?_
    obtain rfl := Option.some.inj e
    exact sum_list_ok hh h1 hs.1 hs.2 ra
  | values l =>
    refine bnd e fun is h1 e => ifs e fun hs e => ?_
    obtain rfl := Option.some.inj e
    exact sum_vals_ok hh h1 hs.1 hs.2 ra
  | _ => exact none_ne e

/-! the least of a list, the greater of two: tuples -/

theorem min_name : (toString "min" ++ toString ".loop" : String) = "min.loop" := by decide
theorem max_name : (toString "max" ++ toString ".loop" : String) = "max.loop" := by decide

noncomputable abbrev twice (v : Value) (c : Nat) : Obj := { cls := .type "list", dict := none, data := .seq #[v, v] c, slots := #[] }

section
variable {I B : Addr} {tg : PySem.Expr} {l : List AV} {S : Nat → Heap → Prop} {N : List Addr}

theorem moves_upd {m : List Addr} {s : Shared} {B : Addr} {f : Obj → Obj} (h : B ∈ m) : Moves m s { s with heap := s.heap.update B f } :=
  moves_heap fun b o hb e => (Heap.get?_update_other _ _ (fun q : B = b => hb (q ▸ h))).trans e

/-- what stands after the iterator moved, or the best was stored -/
theorem rp_two {v : Value} {a : AV} {s s' : Shared} (h : Rp W (vis s.heap (I :: N)) v a) (k : Moves [I, B] s s') (hB : B ∈ N) : Rp W (vis s'.heap (I :: N)) v a :=
  h.mono (gle_moves k fun c hc => by simp at hc; rcases hc with rfl | rfl <;> simp [hB])

noncomputable def tgN : PySem.Expr := .Name Str.empty ⟨0, 0, 0, 0⟩

theorem flat {α : Type} {M : Model} {A : Around} {t : Sem α} {Q : α → Shared → Prop} {E E' : Value → Shared → Prop} {s : Shared} (h : wpAny M A (pure ()) (fun _ s2 => wpAny M A t Q E s2) E' s) : wpAny M A t Q E s := fun Γ p hΓ => (h Γ p hΓ) Γ p hΓ

theorem ItP.step {A : Around} {α : Type} {E' : Value → Shared → Prop} {i : Nat} {a : AV} {s : Shared} {k : Value → Sem α} {Q' : α → Shared → Prop} (T : ItP W A N I tgN l S) (hbd : Bd N s.heap) (ha : l[i]? = some a) (st : S i s.heap)
    (h : ∀ v s2, Moves [I] s s2 → S (i + 1) s2.heap → Rp W (vis s2.heap (I :: N)) v a → wpAny W.md A (k v) Q' E' s2) :
    wpAny W.md A (pyNext (.ref I)) (fun r s1 => ∃ v, r = some v ∧ wpAny W.md A (k v) Q' E' s1) E s :=
  wpAny_mono (T.turn i a s (fun v s2 => wpAny W.md A (k v) Q' E' s2) E hbd ha st h) (fun r s1 h1 => by
    obtain ⟨v, rfl, h1⟩ := h1
    exact ⟨v, rfl, flat h1⟩) fun _ _ x => x

/-- the loops of min and max -/
noncomputable def mml : String → CmpOp → Builtin := (⟨_, rfl⟩ : { F : String → CmpOp → Builtin // Builtin.«min.loop» = F "min" .Lt }).1
/-- one of the two loops, min and max -/
structure BL (W : Wd) (nm id : String) (op : CmpOp) (lt : List AV → List AV → Option Bool) (b : Builtin) : Prop where
  entry : entryFor table id = some b
  body : b = mml nm op
  plain : plainId id = true
  name : (toString nm ++ toString ".loop" : String) = id
  rc : ∀ {A : Around} {s : Shared} {g : G} {a b : Addr} {l m : List AV} {c : Bool}, A.units < cLine → TupAt W s.heap g a l → TupAt W s.heap g b m → lt l m = some c → RcO A s op (.ref a) (.ref b) c

variable {nm id : String} {op : CmpOp} {lt : List AV → List AV → Option Bool} {b : Builtin}

/-- what a turn keeps -/
structure Turn (W : Wd) (N : List Addr) (I B : Addr) (S : Nat → Heap → Prop) (i : Nat) (s : Shared) (vb : Value) (best : AV) : Prop where
  st : S i s.heap
  bd : Bd N s.heap
  ho : ∃ c, s.heap.get? B = some (twice vb c)
  rb : Rp W (vis s.heap (I :: N)) vb best

theorem best_step (T : ItP W A.in1 N I tgN l S) (hB : B ∈ N) (hIN : I ∉ N) {i c : Nat} {v : Value} {a : AV} {s : Shared} {as : Array Value} (ho : s.heap.get? B = some { cls := .type "list", dict := none, data := .seq as c, slots := #[] }) (st : S i s.heap) (hbd : Bd N s.heap) (rv : Rp W (vis s.heap (I :: N)) v a) :
    Turn W N I B S i { s with heap := s.heap.update B (Obj.mapSeq fun _ => #[v, v]) } v a := by
  have k3 : Moves [B] s { s with heap := s.heap.update B (Obj.mapSeq fun _ => #[v, v]) } := moves_upd List.mem_cons_self
  refine ⟨T.keep _ _ _ st fun b o hb e => k3.get (fun q => hb (by simp at q; exact q ▸ hB)) e, fun a ha => ?_, ⟨_, Heap.get?_update_self _ ho rfl⟩, rp_two rv (moves_upd (by simp)) hB⟩
  by_cases hab : a = B
  · subst hab; exact ⟨_, Heap.get?_update_self _ ho rfl⟩
  · obtain ⟨o, q⟩ := hbd a ha
    exact ⟨o, k3.get (by simpa using hab) q⟩

theorem best_turns (L : BL W nm id op lt b) (hh : A.handled = none) (hu : A.units + 4 < cLine) (T : ItP W A.in1 N I tgN l S) (hB : B ∈ N) (hIN : I ∉ N) :
    ∀ (rest : List AV) (i : Nat) (s : Shared) (vb : Value) (best res : AV), rest = l.drop i → i ≤ l.length → Turn W N I B S i s vb best → bestBy lt best rest = some res →
      codeAny W.md A (.builtin id ⟨[.ref I, .none, .ref B], []⟩) (fun r s' => ∃ v, r = .ok (.ret v) ∧ Moves [I, B] s s' ∧ Rp W (vis s'.heap (I :: N)) v res) s
  | [], i, s, vb, best, res, hr, hi, X, e => by
    obtain rfl := Option.some.inj e
    obtain ⟨c, ho⟩ := X.ho
    have hin : i = l.length := Nat.le_antisymm hi (Nat.le_of_sub_eq_zero ((List.length_drop (i := i)).symm.trans (congrArg List.length hr.symm)))
    subst hin
    refine codeAny_builtin L.entry ?_
    rw [Around.under_plainId L.plain _, L.body]
    refine wpAny_bind (m := seqItems? (.ref B)) (wpAny_seqItems ho rfl ?_)
    refine wpAny_bind (m := tryCatch (pyNext (.ref I)) _) (wpAny_tryCatch (T.done s _ _ X.st fun s' k => ?_))
    have ho' := k.get (fun q => hIN (by simp at q; exact q ▸ hB)) ho
    have k2 : Moves [I, B] s s' := k.mono fun a ha => .inl (by simp at ha; simp [ha])
    refine wpAny_bind (m := updateSeq B (fun _ => #[])) (wpAny_updateSeq ho' rfl (wpAny_bind (wpAny_letGo (wpAny_pure ⟨vb, rfl, k2.trans (moves_upd (by simp)), ?_⟩))))
    exact rp_two X.rb (k2.trans (moves_upd (by simp))) hB
  | a :: rest, i, s, vb, best, res, hr, hi, X, e => by
    refine bnd e fun x h1 e => bnd e fun y h2 e => bnd e fun c' hlt e => ?_
    obtain rfl := asTup_inv h1
    obtain rfl := asTup_inv h2
    obtain ⟨c, ho⟩ := X.ho
    have hget : l[i]? = some (.tup y) := (List.head?_drop (l := l) (i := i)).symm.trans (congrArg List.head? hr.symm)
    have hrest : rest = l.drop (i + 1) := (congrArg List.tail hr).trans List.tail_drop
    have hi' : i + 1 ≤ l.length := (List.getElem?_eq_some_iff.mp hget).1
    refine codeAny_builtin L.entry ?_
    rw [Around.under_plainId L.plain _, L.body]
    refine wpAny_bind (m := seqItems? (.ref B)) (wpAny_seqItems ho rfl ?_)
    refine wpAny_bind (m := tryCatch (pyNext (.ref I)) _) (wpAny_tryCatch (wpAny_mono (T.step (i := i) X.bd hget X.st fun v s2 k st2 rv => ?_) (fun r s1 h1 => by obtain ⟨v, rfl, h1⟩ := h1; exact h1) fun _ _ x => x))
    have ho' := k.get (fun q => hIN (by simp at q; exact q ▸ hB)) ho
    have k2 : Moves [I, B] s s2 := k.mono fun a ha => .inl (by simp at ha; simp [ha])
    have rb2 := rp_two X.rb k2 hB
    have bd2 : Bd N s2.heap := fun a ha => let ⟨o, q⟩ := X.bd a ha; ⟨o, k.get (fun q => hIN (by simp at q; exact q ▸ ha)) q⟩
    obtain ⟨ax, rfl, hx⟩ := (show ARel W s2.heap (I :: N) vb ⟨.tup x, false⟩ from rb2).tup
    obtain ⟨ay, rfl, hy⟩ := (show ARel W s2.heap (I :: N) v ⟨.tup y, false⟩ from rv).tup
    refine wpAny_bind (m := pure _) (wpAny_pure ?_)
    refine wpAny_bind (m := tryCatch (holding [Value.ref ay, Value.ref ay] (richCompare op (.ref ay) (.ref ax) >>= _)) _) (wpAny_tryCatch (wpAny_holding (wpAny_bind (L.rc (A := A.in1) (by show A.units + 1 < cLine; lia) hy hx hlt W.prog W.w _ _ ?_))))
    refine wpAny_bind (wpAny_holding (wpAny_truthy_bool ?_))
    refine wpAny_bind (wpAny_letGo (wpAny_pure ?_))
    have fin : ∀ (s3 : Shared) (vb : Value) (best : AV), Moves [I, B] s2 s3 → Turn W N I B S (i + 1) s3 vb best → bestBy lt best rest = some res → codeAny W.md A (.builtin id ⟨[.ref I, .none, .ref B], []⟩) (fun r s' => ∃ v, r = .ok (.ret v) ∧ Moves [I, B] s s' ∧ Rp W (vis s'.heap (I :: N)) v res) s3 := fun s3 vb best k3 X e =>
      codeAny_mono (best_turns L hh hu T hB hIN rest (i + 1) s3 vb best res hrest hi' X e) fun r s' h => by
        obtain ⟨v, h1, h2, h3⟩ := h
        exact ⟨v, h1, (k2.trans k3).trans h2, h3⟩
    cases c' with
    | true =>
      rw [if_pos rfl]
      refine wpAny_bind (m := updateSeq B (fun _ => #[.ref ay, .ref ay])) (wpAny_updateSeq ho' rfl (wpAny_bind (wpAny_letGo ?_)))
      rw [L.name]
      refine wpAny_pure ⟨plainId_quiet L.plain _, ?_⟩
      exact fin _ (.ref ay) _ (moves_upd (by simp)) (best_step T hB hIN ho' st2 bd2 rv) e
    | false =>
      rw [if_neg (by simp)]
      refine wpAny_bind (wpAny_letGo ?_)
      rw [L.name]
      refine wpAny_pure ⟨plainId_quiet L.plain _, ?_⟩
      exact fin _ (.ref ax) _ (Moves.refl _ _) ⟨st2, bd2, ⟨_, ho'⟩, rb2⟩ e

variable {x : AV} {r : List AV}

theorem best_first (L : BL W nm id op lt b) (hh : A.handled = none) (hu : A.units + 4 < cLine) (T : ItP W A.in1 N I tgN (x :: r) S) (hB : B ∈ N) (hIN : I ∉ N) {s : Shared} {res : AV} {c : Nat} (st : S 0 s.heap) (hbd : Bd N s.heap)
    (ho : s.heap.get? B = some { cls := .type "list", dict := none, data := .seq #[] c, slots := #[] }) (e : bestBy lt x r = some res) :
    codeAny W.md A (.builtin id ⟨[.ref I, .none, .ref B], []⟩) (fun rr s' => ∃ v, rr = .ok (.ret v) ∧ Moves [I, B] s s' ∧ Rp W (vis s'.heap (I :: N)) v res) s := by
  refine codeAny_builtin L.entry ?_
  rw [Around.under_plainId L.plain _, L.body]
  refine wpAny_bind (m := seqItems? (.ref B)) (wpAny_seqItems ho rfl ?_)
  refine wpAny_bind (m := tryCatch (pyNext (.ref I)) _) (wpAny_tryCatch (wpAny_mono (T.step (i := 0) hbd rfl st fun v s2 k st2 rv => ?_) (fun r s1 h1 => by obtain ⟨v, rfl, h1⟩ := h1; exact h1) fun _ _ x => x))
  have ho' := k.get (fun q => hIN (by simp at q; exact q ▸ hB)) ho
  have k2 : Moves [I, B] s s2 := k.mono fun a ha => .inl (by simp at ha; simp [ha])
  have bd2 : Bd N s2.heap := fun a ha => let ⟨o, q⟩ := hbd a ha; ⟨o, k.get (fun q => hIN (by simp at q; exact q ▸ ha)) q⟩
  refine wpAny_bind (m := pure _) (wpAny_pure ?_)
  refine wpAny_bind (m := updateSeq B (fun _ => #[v, v])) (wpAny_updateSeq ho' rfl ?_)
  rw [L.name]
  refine wpAny_pure ⟨plainId_quiet L.plain _, codeAny_mono (best_turns L hh hu T hB hIN r 1 _ v x res rfl (by simp) (best_step T hB hIN ho' st2 bd2 rv) e) fun r s' h => ?_⟩
  obtain ⟨v, h1, h2, h3⟩ := h
  exact ⟨v, h1, (k2.trans (moves_upd (by simp))).trans h2, h3⟩

theorem bl_min : BL W "min" "min.loop" .Lt ltFlat Builtin.«min.loop» := ⟨PySem.F.entry_min_loop, rfl, PySem.F.plain_min_loop, min_name, fun hu x y e => rc_lt_tup hu x y e⟩
theorem bl_max : BL W "max" "max.loop" .Gt (fun l m => ltFlat m l) Builtin.«max.loop» := ⟨PySem.F.entry_max_loop, rfl, PySem.F.plain_max_loop, max_name, fun hu x y e => rc_gt_tup hu x y e⟩

end

/-- behind the loop the iterator and its store are nobody's -/
theorem best_end {I B : Addr} {s s' s2 : Shared} {v : Value} {a : AV} (hI : s.heap.get? I = none) (hB : s.heap.get? B = none) (k : Kept s s2) (m : Moves [I, B] s2 s') (r : Rp W (vis s'.heap (I :: (B :: M))) v a) : Gives' W M s a v s' :=
  ⟨k.next m fun c hc => .inr (by simp at hc; rcases hc with rfl | rfl <;> assumption), r.mono (gle_less fun c hc => by simp [hc])⟩

theorem min_ok (hb : Bd M s.heap) (hh : A.handled = none) (hu : A.units + 5 < cLine) {x res : AV} {r : List AV} (e : bestBy ltFlat x r = some res) (ra : Rp W (vis s.heap M) va (.list (x :: r))) :
    wpAny W.md A (call (.builtin "min") [va]) (Gives' W M s res) E s := by
  refine call_function_tree PySem.F.kind_min PySem.F.plain_min PySem.F.entry_min (PySem.F.args_min1 _) ?_
  refine wpAny_bind (m := Builtin.Builtins.bindParams "min" ["key", "default"] 0 ⟨[], []⟩) (wpAny_of_eq (a := [none, none]) rfl ?_)
  refine wpAny_bind (wpAny_pure ?_)
  refine wpAny_bind (wpAny_mono (iter_okX (tg := tgN) hb (X := [s.heap.objs.size + 1]) (by simp) ra rfl) (fun it s2 h => ?_) fun _ _ x => x)
  obtain ⟨I, S, rfl, hI, hsz, hal, hIN, k, T, _, st⟩ := h
  refine wpAny_bind (wpAny_newObj_type ?_)
  rw [min_name]
  have k3 : Kept s2 { s2 with heap := s2.heap.push { cls := .type "list", data := .seq (#[] : Array Value) } } := kept_push _
  have hBs : s2.heap.objs.size = s.heap.objs.size + 1 := hsz
  refine wpAny_pure ⟨plainId_quiet PySem.F.plain_min_loop _, codeAny_mono (best_first bl_min (A := A) (I := I) (B := s2.heap.objs.size) (c := 0) (N := [s.heap.objs.size + 1] ++ M) hh (by lia) (T A.in1 hh) (by simp [hBs]) hIN (T A.in1 hh |>.keep _ _ _ st fun b o _ e => k3.get (by simp) e) ?_ (Heap.get?_push_size _ rfl) e) fun rr s' h => ?_⟩
  · intro a ha
    rcases List.mem_cons.mp ha with rfl | ha
    · exact ⟨_, by rw [← hBs]; exact Heap.get?_push_size _ rfl⟩
    · obtain ⟨o, q⟩ := hb a ha
      exact ⟨o, k3.get (by simp) (k.get (by simp) q)⟩
  · obtain ⟨v, rfl, m, rr⟩ := h
    refine best_end (I := I) (B := s2.heap.objs.size) (s2 := { s2 with heap := s2.heap.push { cls := .type "list", data := .seq (#[] : Array Value) } }) ?_ ?_ (k.trans k3) m ?_
    · rw [hI]; exact get_new _
    · exact fresh_none _ _ (by lia)
    · rw [hBs]; exact rr

theorem max_ok (hb : Bd M s.heap) (hh : A.handled = none) (hu : A.units + 5 < cLine) {a b : List AV} {c : Bool} (e : ltFlat a b = some c) (ra : Rp W (vis s.heap M) va (.tup a)) (rb : Rp W (vis s.heap M) vb (.tup b)) :
    wpAny W.md A (call (.builtin "max") [va, vb]) (Gives' W M s (.tup (if c = true then b else a))) E s := by
  have e' : bestBy (fun l m => ltFlat m l) (.tup a) [.tup b] = some (.tup (if c = true then b else a)) := bndI rfl (bndI rfl (bndI e (by cases c <;> rfl)))
  refine call_function_tree PySem.F.kind_max PySem.F.plain_max PySem.F.entry_max (PySem.F.args_max2 _ _) ?_
  refine wpAny_bind (m := Builtin.Builtins.bindParams "max" ["key", "default"] 0 ⟨[], []⟩) (wpAny_of_eq (a := [none, none]) rfl ?_)
  refine wpAny_bind (m := newTuple [va, vb]) (wpAny_newObj_type ?_)
  have k0 : Kept s { s with heap := s.heap.push { cls := .type "tuple", data := .seq #[va, vb] } } := kept_push _
  have hb0 := hb.kept k0
  have rt : Rp W (vis (s.heap.push { cls := .type "tuple", data := .seq #[va, vb] }) M) (.ref s.heap.objs.size) (.tup [.tup a, .tup b]) :=
    .tup (hb.push _) (.cons (rp_kept ra k0) (.cons (rp_kept rb k0) .nil))
  refine wpAny_bind (wpAny_mono (iter_okX (s := { s with heap := s.heap.push { cls := .type "tuple", data := .seq #[va, vb] } }) (tg := tgN) hb0 (X := [s.heap.objs.size + 1 + 1]) (by simp [Heap.size_push]) rt rfl) (fun it s2 h => ?_) fun _ _ x => x)
  obtain ⟨I, S, rfl, hI, hsz, hal, hIN, k, T, _, st⟩ := h
  refine wpAny_bind (wpAny_newObj_type ?_)
  rw [max_name]
  have k3 : Kept s2 { s2 with heap := s2.heap.push { cls := .type "list", data := .seq (#[] : Array Value) } } := kept_push _
  have hBs : s2.heap.objs.size = s.heap.objs.size + 1 + 1 := by rw [hsz]; show (s.heap.push _).objs.size + 1 = _; rw [Heap.size_push]
  refine wpAny_pure ⟨plainId_quiet PySem.F.plain_max_loop _, codeAny_mono (best_first bl_max (A := A) (I := I) (B := s2.heap.objs.size) (c := 0) (N := [s.heap.objs.size + 1 + 1] ++ M) hh (by lia) (T A.in1 hh) (by simp [hBs]) hIN (T A.in1 hh |>.keep _ _ _ st fun b o _ e => k3.get (by simp) e) ?_ (Heap.get?_push_size _ rfl) e') fun rr s' h => ?_⟩
  · intro a ha
    rcases List.mem_cons.mp ha with rfl | ha
    · exact ⟨_, by rw [← hBs]; exact Heap.get?_push_size _ rfl⟩
    · obtain ⟨o, q⟩ := hb0 a ha
      exact ⟨o, k3.get (by simp) (k.get (by simp) q)⟩
  · obtain ⟨v, rfl, m, rr⟩ := h
    have hI' : I = s.heap.objs.size + 1 := by rw [hI]; show (s.heap.push _).objs.size = _; rw [Heap.size_push]
    refine best_end (I := I) (B := s2.heap.objs.size) (s2 := { s2 with heap := s2.heap.push { cls := .type "list", data := .seq (#[] : Array Value) } }) ?_ ?_ (k0.trans (k.trans k3)) m ?_
    · exact fresh_none _ _ (by rw [hI']; exact Nat.le_succ _)
    · exact fresh_none _ _ (by lia)
    · rw [hBs]; exact rr
end
end Mine

end

/-! part Ops5 -/
section
set_option maxRecDepth 10000
set_option autoImplicit false
set_option linter.unusedVariables false
namespace Mine
open PySem PySem.W PyProof.Rows Builtin Builtin.Str

section
variable {W : Wd} {A : Around} {E : Value → Shared → Prop} {s : Shared} {M : List Addr} {va vb : Value} {g : G}

theorem rpl_strs : ∀ (l : List (Str × Tok)), RpL W g (strValues l) ((l.map (·.1)).map .str)
  | [] => .nil
  | (x, t) :: l => .cons (.str x t) (rpl_strs l)

theorem strs_of : ∀ {vs : List Value} {l : List AV} {ts : List Str}, RpL W g vs l → strsOf l = some ts → ∃ p : List (Str × Tok), vs = strValues p ∧ p.map (·.1) = ts
  | _, _, _, .nil, e => by obtain rfl := Option.some.inj e; exact ⟨[], rfl, rfl⟩
  | _, _, _, .cons (a := a) h1 h2, e => by
    refine bnd e fun x q e => mpd e fun us hu hx => ?_
    obtain rfl : a = .str x := asStr_inv q
    obtain ⟨t, rfl⟩ := h1.str_inv
    subst hx
    obtain ⟨p, rfl, hp⟩ := strs_of h2 hu
    exact ⟨(x, t) :: p, rfl, congrArg (x :: ·) hp⟩

theorem find4_gives (x y : Str) (i j : Int) (t u v v' : Tok) (h0 : 0 ≤ i) (h1 : 0 ≤ j) : Gives («str.find» ⟨[.str x t, .str y u, .int i v, .int j v'], []⟩) (.int (find4 x y i j)) := by
  have e1 : (max 0 (if i < 0 then i + (x.length : Int) else i)).toNat = i.toNat := by
    rw [if_neg (by lia)]; lia
  have e2 : min (max 0 (if j < 0 then j + (x.length : Int) else j)).toNat x.length = min j.toNat x.length := by
    rw [if_neg (by lia)]; congr 1; lia
  unfold find4
  show Gives (match occurrences x y (max 0 (if i < 0 then i + (x.length : Int) else i)).toNat (min (max 0 (if j < 0 then j + (x.length : Int) else j)).toNat x.length) 1 with | k :: _ => retInt k | [] => (do rule "str.find.not-found"; retInt (-1))) _
  rw [e1, e2]
  cases occurrences x y i.toNat (min j.toNat x.length) 1 with
  | nil => exact .rule (.of_eq rfl)
  | cons k _ => exact .of_eq rfl

structure MethTy (W : Wd) (M : List Addr) (va : Value) (a : AR) (name : Str) (T id : String) : Prop where
  plain : PlainAttrs T
  slot : Slot T name id
  ty : typeOf (.builtin id) = pure (.type "method_descriptor")
  is : ∀ s : Shared, ARel W s.heap M va a → s.TypeIs va T ∧ ∀ ad, va = .ref ad → ∃ ob, s.heap.get? ad = some ob ∧ ob.dict = none

noncomputable def MethOk (W : Wd) (A : Around) (M : List Addr) (va : Value) (a : AR) (name : Str) (vs : List AV) (c : AV) : Prop :=
  ∃ T id, MethTy W M va a name T id ∧ ∀ (s : Shared) (vals : List Value) (E : Value → Shared → Prop), Bd M s.heap → ARel W s.heap M va a → RpL W (vis s.heap M) vals vs → wpAny W.md A (call (.builtin id) (va :: vals)) (Gives' W M s c) E s

theorem ty_str {x : Str} {b : Bool} : ∀ s : Shared, ARel W s.heap M va ⟨.str x, b⟩ → s.TypeIs va "str" ∧ ∀ ad, va = .ref ad → ∃ ob, s.heap.get? ad = some ob ∧ ob.dict = none := fun s r => by
  obtain ⟨t, rfl⟩ := r.str
  exact ⟨typeIs_str _ _ _, fun ad e => nomatch e⟩
theorem ty_list {l : List AV} {b : Bool} : ∀ s : Shared, ARel W s.heap M va ⟨.list l, b⟩ → s.TypeIs va "list" ∧ ∀ ad, va = .ref ad → ∃ ob, s.heap.get? ad = some ob ∧ ob.dict = none := fun s r => by
  obtain ⟨x, rfl, n, vs, e, q⟩ := r.lst
  exact ⟨⟨_, e, rfl⟩, fun ad h => by cases h; exact ⟨_, e, rfl⟩⟩
theorem ty_dict {l : List (Str × AV)} {b : Bool} : ∀ s : Shared, ARel W s.heap M va ⟨.dict l, b⟩ → s.TypeIs va "dict" ∧ ∀ ad, va = .ref ad → ∃ ob, s.heap.get? ad = some ob ∧ ob.dict = none := fun s r => by
  obtain ⟨x, rfl, kvs, hd, _, q⟩ := r.dct
  exact ⟨hd.typeIs, hd.mapOf.noDict⟩

theorem pos_of {k : Str} : ∀ {ts : List Str} {i : Nat}, posOf k ts = some i → ts[i]? = some k ∧ ∀ j x, j < i → ts[j]? = some x → x ≠ k
  | [], _, e => by (first | exact none_ne e | simp [posOf] at e)
  | y :: ts, i, e => by
    simp only [posOf] at e
    split at e
    · rename_i h; cases e; subst h
      exact ⟨rfl, fun j x hj => absurd hj (Nat.not_lt_zero _)⟩
    · rename_i h
      obtain ⟨j, hj, rfl⟩ := Option.map_eq_some_iff.mp e
      obtain ⟨h1, h2⟩ := pos_of hj
      refine ⟨by simpa using h1, fun m x hm hx => ?_⟩
      cases m with
      | zero => simp at hx; subst hx; exact h
      | succ m => exact h2 m x (by lia) (by simpa using hx)

noncomputable def isStrK (k : Str) : Value → Bool
  | .str x _ => decide (x = k)
  | _ => false

theorem rp_getD {kvs : List (Str × Value)} {d : List (Str × AV)} {k : Str} {v : Value} {a : AV} (q : RpD W g kvs d) (r : Rp W g v a) : Rp W g ((valueAt kvs k).getD v) ((d.lookup k).getD a) := by
  rcases q.valueAt k with ⟨v, a, h1, h2, h3⟩ | ⟨h1, h2⟩
  · rw [h1, h2]; exact h3
  · rw [h1, h2]; exact r

theorem split0_ok (hb : Bd M s.heap) {x : Str} {t : Tok} (hx : x.length ≤ 4096) (hw : (spaceWords x (x.length + 1)).length ≤ 4096) : wpAny W.md A (call (.builtin "str.split") [.str x t]) (Gives' W M s (.list ((Txt.words x).map .str))) E s := by
  refine call_meets PySem.F.slot_str_split (typeIs_str _ _ _) PySem.F.entry_str_split (PySem.F.args_str_split_1 _) (meets_str_split_space _ t (line_le hx) (line_le hw)) ?_
  unfold Txt.words
  cases hw : spaceWords x (x.length + 1) == [(0, x.length)]
  · rw [if_neg (by decide)]
    rw [if_neg (by decide), strsFrom_eq]
    have := gList (W := W) hb (rpl_strs (W := W) (numbered s.toks (PySem.wordsOf x))) (s.toks + (spaceWords x (x.length + 1)).length)
    rw [numbered_texts] at this
    exact this
  · rw [if_pos rfl]
    rw [if_pos rfl]
    exact gList (W := W) hb (rpl_strs (W := W) [(x, t)]) s.toks
theorem split1_ok (hb : Bd M s.heap) {x y : Str} {t u : Tok} (hy : (y.length == 0) = false) (hx : x.length ≤ 4096) (hw : (partsBetween x (occurrences x y 0 x.length (x.length + 1)) y.length).length ≤ 4096) :
    wpAny W.md A (call (.builtin "str.split") [.str x t, .str y u]) (Gives' W M s (.list ((Txt.split x y).map .str))) E s := by
  unfold Txt.split
  cases h1 : (decide (x.length < y.length) || decide (Builtin.Str.strKind x < Builtin.Str.strKind y))
  · rw [if_neg (by decide)]
    cases hf : (occurrences x y 0 x.length (x.length + 1)).isEmpty
    · rw [if_neg (by decide)]
      refine call_meets PySem.F.slot_str_split (typeIs_str _ _ _) PySem.F.entry_str_split (PySem.F.args_str_split_2 _ _) (meets_str_split_sep x y t u h1 hy hf (line_le hx) (line_le hw)) ?_
      have := gList (W := W) hb (rpl_strs (W := W) (numbered s.toks (partsBetween x (occurrences x y 0 x.length (x.length + 1)) y.length))) (s.toks + (partsBetween x (occurrences x y 0 x.length (x.length + 1)) y.length).length)
      rw [numbered_texts, ← strsFrom_eq] at this
      exact this
    · rw [if_pos rfl]
      exact call_meets PySem.F.slot_str_split (typeIs_str _ _ _) PySem.F.entry_str_split (PySem.F.args_str_split_2 _ _) (meets_str_split_not_found x y t u h1 hy hf) (gList (W := W) hb (rpl_strs (W := W) [(x, t)]) s.toks)
  · rw [if_pos rfl]
    exact call_meets PySem.F.slot_str_split (typeIs_str _ _ _) PySem.F.entry_str_split (PySem.F.args_str_split_2 _ _) (meets_str_split_cannot_occur x y t u h1) (gList (W := W) hb (rpl_strs (W := W) [(x, t)]) s.toks)

theorem index_ok {x : Addr} {l : List AV} {k : Str} {u : Tok} {ts : List Str} {i : Nat} (hx : LstAt W s.heap g x l) (hts : strsOf l = some ts) (hlen : ts.length ≤ 4096) (hi : posOf k ts = some i) :
    wpAny W.md A (call (.builtin "list.index") [.ref x, .str k u]) (Gives' W M s (.int (i : Nat))) E s := by
  obtain ⟨n, us, ho, r⟩ := hx
  obtain ⟨p, hp, e2⟩ := strs_of r hts
  obtain ⟨q1, q2⟩ := pos_of hi
  have hsz : us.size = ts.length := by
    have := congrArg List.length hp
    rw [← e2, List.length_map]
    exact this.trans (List.length_map ..)
  have hi' : i < us.size := by rw [hsz]; exact (List.getElem?_eq_some_iff.mp q1).1
  have item : ∀ j (hj : j < us.size), ∃ y t, us[j] = .str y t ∧ ts[j]? = some y := fun j hj => by
    have h1 : us.toList[j]? = some us[j] := by simp [hj]
    rw [hp] at h1
    unfold strValues at h1
    rw [List.getElem?_map] at h1
    obtain ⟨q, hq, e3⟩ := Option.map_eq_some_iff.mp h1
    refine ⟨q.1, q.2, e3.symm, ?_⟩
    rw [← e2, List.getElem?_map, hq]; rfl
  refine call_meets PySem.F.slot_list_index ⟨_, ho, rfl⟩ PySem.F.entry_list_index (PySem.F.args_list_index_2 _ _) (SeqAt.list_indexAt x us n none #[] (.str k u) (isStrK k) i hi' (by lia) ?_ ?_) ⟨ho, ?_, gInt⟩
  · obtain ⟨y, t, h1, h2⟩ := item i hi'
    rw [h1]
    rw [h2] at q1; cases q1
    exact decide_eq_true rfl
  · intro m hm hmi
    obtain ⟨y, t, h1, h2⟩ := item m hm
    rw [h1]
    exact decide_eq_false (q2 m y hmi h2)
  · intro y hy
    obtain ⟨j, hj, rfl⟩ := Array.mem_iff_getElem.mp hy
    obtain ⟨z, t, h1, h2⟩ := item j hj
    rw [h1]
    exact eqAt_str z _ t u

theorem strM_ok {name : Str} {x : Str} {oa : Bool} {vs : List AV} {c : AV} (e0 : strM name x vs = some c) : MethOk W A M va ⟨.str x, oa⟩ name vs c := by
  refine ifb e0 (fun hn e => ?_) fun _ e1 => ifb e1 (fun hn e => ?_) fun _ e2 => ifs e2 fun hn e => ?_
  · clear e0
    subst hn
    refine ⟨"str", _, ⟨PySem.F.plainAttrs_str, PySem.F.slot_str_find, PySem.F.type_str_find, ty_str⟩, fun s vals E hb ra rv => ?_⟩
    obtain ⟨t, rfl⟩ := ra.str
    clear ra
    cases rv with
    | nil => exact none_ne e
    | cons r1 r2 =>
      refine bnd (α := AV) e fun y h0 e => bnd e fun y h1 e => ?_
      obtain ⟨u, rfl⟩ := (Option.some.inj h0 ▸ r1).str' h1
      clear r1 h0 h1
      refine ifb e (fun he e => ?_) fun _ e => bnd e fun q h1 e => bnd e fun i h2 e => bnd e fun j h3 e => ifs e fun hs e => ?_
      · obtain rfl := Option.some.inj e
        obtain rfl := r2.emp' he
        exact SC.find gInt
      · obtain ⟨v2, v3, rfl, r3, r4⟩ := r2.two' h1
        obtain ⟨u2, rfl⟩ := r3.int' h2
        obtain ⟨u3, rfl⟩ := r4.int' h3
        obtain rfl := Option.some.inj e
        exact call_gives PySem.F.slot_str_find (typeIs_str _ _ _) PySem.F.entry_str_find (PySem.F.args_str_find_4 _ _ _ _) (find4_gives _ _ _ _ _ _ _ _ (small_spec hs.1).1 (small_spec hs.2).1) gInt
  · clear e0 e1
    subst hn
    refine ⟨"str", _, ⟨PySem.F.plainAttrs_str, PySem.F.slot_str_split, PySem.F.type_str_split, ty_str⟩, fun s vals E hb ra rv => ?_⟩
    obtain ⟨t, rfl⟩ := ra.str
    refine ifb (e : splitM x vs = some c) (fun he e => ifs e fun h e => ?_) fun _ e => bnd e fun w h1 e => bnd e fun y h2 e => ifs e fun h e => ?_
    · obtain rfl := Option.some.inj e
      obtain rfl := rv.emp' he
      exact split0_ok hb h.1 h.2
    · obtain ⟨v1, rfl, r1⟩ := rv.one' h1
      obtain ⟨u, rfl⟩ := r1.str' h2
      obtain rfl := Option.some.inj e
      exact split1_ok hb h.1 h.2.1 h.2.2
  · clear e0 e1 e2
    subst hn
    refine ⟨"str", _, ⟨PySem.F.plainAttrs_str, PySem.F.slot_str_join, PySem.F.type_str_join, ty_str⟩, fun s vals E hb ra rv => ?_⟩
    obtain ⟨t, rfl⟩ := ra.str
    refine bnd (e : joinM x vs = some c) fun w h1 e => bnd e fun l h2 e => bnd e fun ts hts e => ifs e fun hj e => ?_
    obtain ⟨v1, rfl, r1⟩ := rv.one' h1
    obtain ⟨x, rfl, hx⟩ := (show ARel W s.heap M _ ⟨_, false⟩ from r1).lst' h2
    obtain rfl := Option.some.inj e
    obtain ⟨us, hl, r, z⟩ := hx.list
    obtain ⟨p, hp, e2⟩ := strs_of r hts
    rw [show us = (strValues p).toArray by rw [← hp]] at hl
    exact SC.join hl e2 hj fun t' k => gStr
theorem listM_ok {name : Str} {l : List AV} {oa : Bool} {vs : List AV} {c : AV} (e : listM name l vs = some c) : MethOk W A M va ⟨.list l, oa⟩ name vs c := by
  refine ifs e fun hn e => bnd e fun w h1 e => bnd e fun k h2 e => bnd e fun ts hts e => ifs e fun hlen e => mpd e fun i hi hc => ?_
  subst hn
  subst hc
  refine ⟨"list", _, ⟨PySem.F.plainAttrs_list, PySem.F.slot_list_index, PySem.F.type_list_index, ty_list⟩, fun s vals E hb ra rv => ?_⟩
  obtain ⟨x, rfl, hx⟩ := ra.lst
  obtain ⟨v1, rfl, r1⟩ := rv.one' h1
  obtain ⟨u, rfl⟩ := r1.str' h2
  exact index_ok hx hts hlen hi
theorem view_frz {oa : Bool} {P : Prop} (h : oa = true → ¬ P) (p : P) : oa = false := by cases oa with | false => rfl | true => exact absurd p (h rfl)
theorem dictM_ok {name : Str} {d : List (Str × AV)} {oa : Bool} {vs : List AV} {c : AV} (e : dictM name d vs = some c) (ho : oa = true → (∀ d, c ≠ .items d) ∧ ∀ d, c ≠ .values d) : MethOk W A M va ⟨.dict d, oa⟩ name vs c := by
  refine ifb e (fun hn e => bnd e fun q h1 e => mpd e fun k h2 hc => ?_) fun _ e => ifs e fun he e => ifb e (fun hn e => ?_) fun _ e => ifs e fun hn e => ?_
  · subst hn
    subst hc
    refine ⟨"dict", _, ⟨PySem.F.plainAttrs_dict, PySem.F.slot_dict_get, PySem.F.type_dict_get, ty_dict⟩, fun s vals E hb ra rv => ?_⟩
    obtain ⟨x, rfl, kvs, hd, hs, q⟩ := ra.dct
    obtain ⟨v1, v2, rfl, r0, r1⟩ := rv.two' h1
    obtain ⟨u1, rfl⟩ := r0.str' h2
    exact call_meetsIn PySem.F.slot_dict_get hd.typeIs PySem.F.entry_dict_get (PySem.F.args_dict_get_3 _ _ _) (meets_dict_get_default W.kd x (strKind_is _ _ _ _) hs _) ⟨_, hd.mapOf, kept_toks _, rp_kept (rp_getD q r1) (kept_toks _)⟩
  · subst hn
    obtain rfl := Option.some.inj e
    obtain rfl := view_frz (fun h q => (ho h).1 d q) rfl
    refine ⟨"dict", _, ⟨PySem.F.plainAttrs_dict, PySem.F.slot_dict_items, PySem.F.type_dict_items, ty_dict⟩, fun s vals E hb ra rv => ?_⟩
    obtain rfl := rv.emp' he
    obtain ⟨x, e, kvs, hd, hs, q⟩ := ra.dct
    subst e
    exact call_meetsIn PySem.F.slot_dict_items hd.typeIs PySem.F.entry_dict_items (PySem.F.args_dict_items_1 _) (meets_dict_items W.kd x hs) ⟨⟨kvs, hd⟩, kept_push _, .items (hb.push _) rfl rfl (rp_kept ra (kept_push _))⟩
  · subst hn
    obtain rfl := Option.some.inj e
    obtain rfl := view_frz (fun h q => (ho h).2 d q) rfl
    refine ⟨"dict", _, ⟨PySem.F.plainAttrs_dict, PySem.F.slot_dict_values, PySem.F.type_dict_values, ty_dict⟩, fun s vals E hb ra rv => ?_⟩
    obtain rfl := rv.emp' he
    obtain ⟨x, e, kvs, hd, hs, q⟩ := ra.dct
    subst e
    exact call_meetsIn PySem.F.slot_dict_values hd.typeIs PySem.F.entry_dict_values (PySem.F.args_dict_values_1 _) (meets_dict_values W.kd x hs) ⟨⟨kvs, hd⟩, kept_push _, .values (hb.push _) rfl rfl (rp_kept ra (kept_push _))⟩

theorem methA_ok {name : Str} {a : AR} {vs : List AV} {c : AV} (e : methA name a.v vs = some c) (ho : a.own = true → (∀ d, c ≠ .items d) ∧ ∀ d, c ≠ .values d) : MethOk W A M va a name vs c := by
  obtain ⟨a, oa⟩ := a
  cases a with
  | str x => exact strM_ok e
  | list l => exact listM_ok e
  | dict d => exact dictM_ok e ho
  | _ => exact none_ne e
end
end Mine

end

/-! part Exp1 -/
section
set_option maxRecDepth 10000
set_option autoImplicit false
set_option linter.unusedVariables false
namespace Mine
open PySem PySem.W PyProof.Rows

/-! what an expression reads: the frame's names, the globals -/

structure FnOk (h : Heap) (fd : FuncData) (d : Def) : Prop where
  code : h.CodeRec fd.code fd.qualname
  body : fd.body = .stmts d.body
  scope : fd.scope = d.sc
  clo : fd.closure = []
  glo : fd.globals = mainGlobals
  blt : fd.builtins = builtinsNs
  bind : ∀ vals, vals.length = d.params.length → bindArgs fd ⟨vals, []⟩ = pure (d.params.zip vals)

noncomputable def FnAt (h : Heap) (a : Addr) (d : Def) : Prop := ∃ o fd, h.get? a = some o ∧ o.data = .func fd ∧ FnOk h fd d

noncomputable def sN (s : String) : Str := Str.ofString s

/-- the class's __init__ -/
noncomputable def InitOk (d : Def) : Prop := d.params = [sN "self", csl] ∧ d.sc.kind = .function ∧ d.sc.isCoroutine = false ∧ d.sc.isGenerator = false ∧
  d.sc.names.lookup (sN "self") = some .local ∧ d.sc.names.lookup csl = some .local ∧ ∃ p1 p2 p3 p4, d.body = [.Assign [.Attribute (.Name (sN "self") p1) csl p2] (.Name csl p3) p4]

structure Gl (W : Wd) (hb : Heap) where
  K : Frag
  kin : K.In hb
  mg : Str → Option Value
  mb : Str → Option Value
  nsg : hb.Ns mainGlobals mg
  nsb : hb.Ns builtinsNs mb
  nolim : hb.NoLimit
  ell : ∃ t, mg (sN "ELLIPSIS_MARKER") = some (.str (sN "...") t)
  fn : Str → Addr
  fns : ∀ f d, theDefs.lookup f = some d → FnAt hb (fn f) d
  fng : ∀ f, isDef f theDefs = true → mg f = some (.ref (fn f))
  bi : ∀ n ∈ ["len", "sum", "min", "max", "isinstance"], mg (sN n) = none ∧ mb (sN n) = some (.builtin n)
  ty : ∀ n ∈ ["range", "reversed", "tuple"], mg (sN n) = none ∧ mb (sN n) = some (.type n)
  tc : mg (sN "TupleComp") = some (.ref W.C)
  fI : Addr
  mkC : makesIn K W.C = true
  init : findIn K (.ref W.C) "__init__" = some (some (.ref fI))
  initAt : ∃ d, FnAt hb fI d ∧ InitOk d
  setA : findIn K (.ref W.C) "__setattr__" = some (some (.builtin "object.__setattr__"))
  over : plainOver K W.C = true
  taker : takerIn K W.C csl = some none
  initFn : typeIn K (.ref fI) = some (.type "function")
  keep : keepIn K (.ref W.C) = true
  getA : plainGet K W.C csl = true
  hasD : hasDictIn K W.C = true
  cslA : findIn K (.ref W.C) csl = some none
  cmp : findIn K (.ref W.C) (sN "compare") = some (some (.ref (fn (sN "compare"))))
  cmpFn : typeIn K (.ref (fn (sN "compare"))) = some (.type "function")

noncomputable def NameAt (env : Env) (h : Heap) (x : Str) (P : Value → Prop) : Prop :=
  ∃ u, P u ∧ ((env.kindOf x = some .local ∧ ∃ m, h.Ns env.locals m ∧ m x = some u) ∨ (env.kindOf x = some .cell ∧ ∃ c, env.cells.lookup x = some c ∧ h.IsCell c (some u)))

structure Rd (W : Wd) (hb : Heap) (cx : CX) (env : Env) (M : List Addr) (ρ : R) (h : Heap) : Prop where
  base : HLe hb h
  knd : env.scope.kind = .function
  glo : env.globals = mainGlobals
  blt : env.builtins = builtinsNs
  bd : Bd M h
  scp : cx.cs = none → env.scope = cx.sc
  cells : ∀ x, cx.cs = none → cx.sc.names.lookup x = some .cell → (env.cells.lookup x).isSome
  gl : ∀ x, kind cx x = some .glob → env.kindOf x = some .globalImplicit
  var : ∀ x v, kind cx x = some .var → ρ.vars.lookup x = some v → NameAt env h x fun u => ARel W h M u v.read
  cmp : ∀ x v, kind cx x = some .comp → ρ.comp.lookup x = some v → NameAt env h x fun u => Rp W (vis h M) u v

theorem ns_kept {h h' : Heap} (k : HLe h h') {a : Addr} {m : Str → Option Value} (x : h.Ns a m) : h'.Ns a m := x.keeps k
theorem NameAt.kept {env : Env} {h h' : Heap} {x : Str} {P P' : Value → Prop} (n : NameAt env h x P) (k : HLe h h') (hp : ∀ u, P u → P' u) : NameAt env h' x P' := by
  obtain ⟨u, p, r⟩ := n
  refine ⟨u, hp u p, ?_⟩
  rcases r with ⟨e, m, hm, hx⟩ | ⟨e, c, hc, hx⟩
  · exact .inl ⟨e, m, hm.keeps k, hx⟩
  · exact .inr ⟨e, c, hc, hx.keeps k⟩

section
variable {W : Wd} {hb : Heap} {cx : CX} {env : Env} {M : List Addr} {ρ : R} {A : Around} {E : Value → Shared → Prop} {s s' : Shared}

theorem Rd.kept (D : Rd W hb cx env M ρ s.heap) (k : Kept s s') : Rd W hb cx env M ρ s'.heap where
  base := fun b o e => k.hle b o (D.base b o e)
  knd := D.knd
  glo := D.glo
  blt := D.blt
  bd := D.bd.kept k
  scp := D.scp
  cells := D.cells
  gl := D.gl
  var := fun x v h1 h2 => (D.var x v h1 h2).kept k.hle fun u r => r.kept k
  cmp := fun x v h1 h2 => (D.cmp x v h1 h2).kept k.hle fun u r => rp_kept r k

/-- what the soundness of a record of evaluators says -/
noncomputable def EvSound (W : Wd) (hb : Heap) (n : Nat) (r : Rec) : Prop :=
  ∀ cx ρ e ar, r.ev cx ρ e = some ar → ∀ env M A s E, AOk A n → Rd W hb cx env M ρ s.heap →
    wpAny W.md A (eval e env) (fun v s' => Kept s s' ∧ ARel W s'.heap M v ar) E s
noncomputable def TsSound (W : Wd) (hb : Heap) (n : Nat) (r : Rec) : Prop :=
  ∀ cx ρ e b, r.ts cx ρ e = some b → ∀ env M A s E, AOk A n → Rd W hb cx env M ρ s.heap →
    wpAny W.md A (isTrue e env (eval e env)) (fun c s' => c = b ∧ Kept s s') E s
noncomputable def CallSound (W : Wd) (hb : Heap) (fn : Str → Addr) (n : Nat) (r : Rec) : Prop :=
  ∀ f vs v, (theDefs.lookup f).isSome → r.call f (vs.map .frz) = some (v, none) → ∀ M A s E vals, AOk A n → HLe hb s.heap → Bd M s.heap → RpL W (vis s.heap M) vals vs →
    wpAny W.md A (call (.ref (fn f)) vals) (Gives' W M s v) E s
noncomputable def IoSound (W : Wd) (hb : Heap) (fn : Str → Addr) (n : Nat) (r : Rec) : Prop :=
  ∀ f c vs v c', (theDefs.lookup f).isSome → r.call f (.own c :: vs.map .frz) = some (v, some c') → ∀ M A s E a vals, AOk A n → HLe hb s.heap → Bd M s.heap → a ∈ M → OwnAt W s.heap (vis s.heap M) a c → hb.get? a = none →
    RpL W (vis s.heap M) vals vs →
    wpAny W.md A (call (.ref (fn f)) (.ref a :: vals)) (fun x s' => Moves [a] s s' ∧ Rp W (vis s'.heap M) x v ∧ OwnAt W s'.heap (vis s'.heap M) a c') E s

theorem AOk.down {n : Nat} (x : AOk A (n + 1)) : AOk A n := ⟨x.handled, by have := x.depth; lia, by have := x.units; lia⟩

variable {r : Rec} {n : Nat}

theorem starEach_cons {e : PySem.Expr} {es : List PySem.Expr} (h : notStar e = true) : starEach (e :: es) env = (false, eval e env) :: starEach es env := by
  cases e <;> first | rfl | cases h

inductive RpA (W : Wd) (h : Heap) (M : List Addr) : List Value → List AR → Prop
  | nil : RpA W h M [] []
  | cons {v : Value} {vs : List Value} {a : AR} {l : List AR} : ARel W h M v a → RpA W h M vs l → RpA W h M (v :: vs) (a :: l)
theorem RpA.clean {h : Heap} : ∀ {l : List AV} {vs : List Value}, RpA W h M vs (l.map mkR) → RpL W (vis h M) vs l
  | [], _, .nil => .nil
  | _ :: _, _, .cons h1 h2 => .cons h1 h2.clean

/-- clean values are values -/
theorem evs_evrs : ∀ (es : List PySem.Expr) (l : List AV), evs r cx ρ es = some l → evrs r cx ρ es = some (l.map mkR)
  | [], _, e => by obtain rfl := Option.some.inj e; rfl
  | x :: es, l, e => ifs e fun hs e => bnd e fun v hv e => mpd e fun l' hl hx => hx ▸ ifsI hs (bndI (clean_inv hv) (mpdI (evs_evrs es l' hl)))

theorem evrs_spliced (S : EvSound W hb n r) (ha : AOk A n) (pos : Pos) : ∀ (es : List PySem.Expr) (l : List AR) (s : Shared), evrs r cx ρ es = some l → Rd W hb cx env M ρ s.heap →
    wpAny W.md A (spliced (backTo pos (starEach es env))) (fun vs s' => Kept s s' ∧ RpA W s'.heap M vs l) E s
  | [], l, s, e, D => by
    obtain rfl := Option.some.inj e
    exact Calls.spliced_nil ⟨Moves.refl _ _, .nil⟩
  | x :: es, l, s, e, D => by
    refine ifs e fun hs e => bnd e fun v hv e => mpd e fun l' hl hx => ?_
    subst hx
    rw [starEach_cons hs]
    refine Calls.spliced_cons (wpAny_mono (S cx ρ x _ hv env M A s E ha D) (fun u s1 h1 => ?_) fun _ _ q => q)
    refine wpAny_mono (evrs_spliced S ha pos es l' s1 hl (D.kept h1.1)) (fun us s2 h2 => ?_) fun _ _ q => q
    exact ⟨h1.1.trans h2.1, .cons (h1.2.kept h2.1) h2.2⟩
theorem evs_spliced (S : EvSound W hb n r) (ha : AOk A n) (pos : Pos) (es : List PySem.Expr) (l : List AV) (s : Shared) (e : evs r cx ρ es = some l) (D : Rd W hb cx env M ρ s.heap) :
    wpAny W.md A (spliced (backTo pos (starEach es env))) (fun vs s' => Kept s s' ∧ RpL W (vis s'.heap M) vs l) E s :=
  wpAny_mono (evrs_spliced S ha pos es _ s (evs_evrs es l e) D) (fun _ _ h => ⟨h.1, h.2.clean⟩) fun _ _ q => q

theorem evrs_plain : ∀ (es : List PySem.Expr) (l : List AR) (pos : Pos), evrs r cx ρ es = some l → (backTo pos (starEach es env)).any (·.1) = false
  | [], _, _, _ => rfl
  | x :: es, l, pos, e => ifs e fun hs e => bnd e fun v hv e => mpd e fun l' hl hx => by
    rw [starEach_cons hs]
    exact (Bool.false_or _).trans (evrs_plain es l' pos hl)
theorem evs_plain (es : List PySem.Expr) (l : List AV) (pos : Pos) (e : evs r cx ρ es = some l) : (backTo pos (starEach es env)).any (·.1) = false := evrs_plain es _ pos (evs_evrs es l e)
theorem evs_all (es : List PySem.Expr) (l : List AV) (pos : Pos) (e : evs r cx ρ es = some l) : (backTo pos (starEach es env)).all (fun x => !x.1) = true := by
  rw [List.all_eq_not_any_not]
  have := evs_plain (env := env) es l pos e
  simpa using this

/-- arguments of a call -/
theorem evrs_args (S : EvSound W hb n r) (ha : AOk A n) {pos : Pos} {f : Value} {es : List PySem.Expr} {l : List AR} (e : evrs r cx ρ es = some l) (D : Rd W hb cx env M ρ s.heap) {Q : Args → Shared → Prop}
    (h : ∀ vs s', Kept s s' → RpA W s'.heap M vs l → Q ⟨vs, []⟩ s') : wpAny W.md A (evalArgs f true (backTo pos (starEach es env)) []) Q E s := by
  cases es with
  | nil => obtain rfl := Option.some.inj e; exact evalArgs_nil3 (h [] s (Moves.refl _ _) .nil)
  | cons x es =>
    have z := evrs_spliced (E := E) S ha pos (x :: es) l s e D
    rw [starEach_cons (ifs e fun hs _ => hs)] at z ⊢
    exact Calls.evalArgs_plain (wpAny_mono z (fun vs s' q => h vs s' q.1 q.2) fun _ _ q => q)
theorem evs_args (S : EvSound W hb n r) (ha : AOk A n) {pos : Pos} {f : Value} {es : List PySem.Expr} {l : List AV} (e : evs r cx ρ es = some l) (D : Rd W hb cx env M ρ s.heap) {Q : Args → Shared → Prop}
    (h : ∀ vs s', Kept s s' → RpL W (vis s'.heap M) vs l → Q ⟨vs, []⟩ s') : wpAny W.md A (evalArgs f true (backTo pos (starEach es env)) []) Q E s :=
  evrs_args S ha (evs_evrs es l e) D fun vs s' k q => h vs s' k q.clean

/-! names -/

theorem name_at {x : Str} {pos : Pos} {P : Value → Prop} {Q : Value → Shared → Prop} (hk : env.scope.kind = .function) (h : NameAt env s.heap x P) (hd : x ≠ Str.ofString "__debug__") (hQ : ∀ u, P u → Q u s) :
    wpAny W.md A (eval (.Name x pos) env) Q E s := by
  have hd' : (x == ("__debug__" : Str)) = false := by
    cases e : (x == ("__debug__" : Str)) with
    | false => rfl
    | true => exact absurd (beq_iff_eq.mp e) hd
  obtain ⟨u, p, r⟩ := h
  refine wpAny_Name ?_ hd'
  rcases r with ⟨e, m, hm, hx⟩ | ⟨e, c, hc, hx⟩
  · exact wpAny_loadName_local hk e hm hx (hQ u p)
  · exact wpAny_loadName_cell hk e hc hx (hQ u p)

theorem name_glob {x : Str} {pos : Pos} {Q : Value → Shared → Prop} {u : Value} (G : Gl W hb) (D : Rd W hb cx env M ρ s.heap) (hx : kind cx x = some .glob) (hd : x ≠ Str.ofString "__debug__")
    (hv : G.mg x = some u ∨ (G.mg x = none ∧ G.mb x = some u)) (hQ : Q u s) : wpAny W.md A (eval (.Name x pos) env) Q E s := by
  have hd' : (x == ("__debug__" : Str)) = false := by
    cases e : (x == ("__debug__" : Str)) with
    | false => rfl
    | true => exact absurd (beq_iff_eq.mp e) hd
  refine Calls.Name_function_global D.knd (D.gl x hx) ?_ hd'
  rcases hv with h | ⟨h1, h2⟩
  · exact Calls.loadGlobal_global (by rw [D.glo]; exact G.nsg.keeps D.base) h hQ
  · exact Calls.loadGlobal_builtin (by rw [D.glo]; exact G.nsg.keeps D.base) h1 (by rw [D.blt]; exact G.nsb.keeps D.base) h2 hQ

theorem ev_name (G : Gl W hb) {x : Str} {pos : Pos} {ar : AR} (e : evVar cx ρ x = some ar) (D : Rd W hb cx env M ρ s.heap) :
    wpAny W.md A (eval (.Name x pos) env) (fun v s' => Kept s s' ∧ ARel W s'.heap M v ar) E s := by
  refine ifs e fun hd e => ifb e (fun hk e => mpd e fun v hv hx => ?_) fun _ e => ifb e (fun hk e => mpd e fun v hv hx => ?_) fun _ e => ifs e fun hk e => mpd e fun v hv hx => ifs hv fun h1 h2 => ?_
  · subst hx
    exact name_at D.knd (D.cmp x v (isK_inv hk) hv) hd fun u p => ⟨Moves.refl _ _, p⟩
  · subst hx
    exact name_at D.knd (D.var x v (isK_inv hk) hv) hd fun u p => ⟨Moves.refl _ _, p⟩
  · subst hx
    obtain rfl := Option.some.inj h2
    subst h1
    obtain ⟨t, ht⟩ := G.ell
    exact name_glob G D (isK_inv hk) hd (.inl ht) ⟨Moves.refl _ _, show Rp W _ _ _ from .str _ _⟩
end
end Mine

end

/-! part Exp2 -/
section
set_option maxRecDepth 10000
set_option autoImplicit false
set_option linter.unusedVariables false
namespace Mine
open PySem PySem.W PyProof.Rows

section
variable {W : Wd} {hb : Heap} {cx : CX} {env : Env} {M : List Addr} {ρ : R} {A : Around} {E : Value → Shared → Prop} {s s' : Shared} {r : Rec} {n : Nat}

/-- what an expression gives -/
noncomputable abbrev EvGives (W : Wd) (A : Around) (env : Env) (M : List Addr) (e : PySem.Expr) (ar : AR) (E : Value → Shared → Prop) (s : Shared) : Prop :=
  wpAny W.md A (eval e env) (fun v s' => Kept s s' ∧ ARel W s'.heap M v ar) E s

theorem kt {s s1 s2 : Shared} (k : Kept s s1) {v : Value} {c : AV} (h : Gives' W M s1 c v s2) : Kept s s2 ∧ ARel W s2.heap M v ⟨c, false⟩ := ⟨k.trans h.1, h.2⟩

theorem ev_const {c : Const} {k : Nat} {pos : Pos} {ar : AR} (e : evCon c = some ar) : EvGives W A env M (.Constant c k pos) ar E s := by
  unfold EvGives
  rw [arm_eval_Constant]
  cases c with
  | none => obtain rfl := Option.some.inj e; exact wpAny_pure ⟨Moves.refl _ _, show Rp W _ _ _ from .none⟩
  | bool b => obtain rfl := Option.some.inj e; exact wpAny_pure ⟨Moves.refl _ _, show Rp W _ _ _ from .bool _⟩
  | int i => obtain rfl := Option.some.inj e; exact wpAny_mkInt ⟨kept_toks _, show Rp W _ _ _ from .int _ _⟩
  | str x =>
    refine ifs (e : evCon (.str x) = some ar) fun _ e => ?_
    obtain rfl := Option.some.inj e
    exact wpAny_mkText ⟨kept_toks _, show Rp W _ _ _ from .str _ _⟩
  | _ => exact none_ne e

theorem ev_binop (S : EvSound W hb n r) (ha : AOk A n) (D : Rd W hb cx env M ρ s.heap) {op : Operator} {l x : PySem.Expr} {pos : Pos} {a b : AR} {c : AV} (ea : r.ev cx ρ l = some a) (eb : r.ev cx ρ x = some b) (e : binA op a.v b.v = some c) :
    EvGives W A env M (.BinOp l op x pos) ⟨c, false⟩ E s := by
  refine wpAny_BinOp (wpAny_mono (S _ _ _ _ ea env M A s E ha D) (fun va s1 h1 => ?_) fun _ _ q => q)
  have D1 := D.kept h1.1
  refine wpAny_mono (S _ _ _ _ eb env M A s1 E ha D1) (fun vb s2 h2 => ?_) fun _ _ q => q
  refine wpAny_mono (binA_ok (D1.kept h2.1).bd e (h1.2.kept h2.1) h2.2) (fun v s3 h3 => ?_) fun _ _ q => q
  exact kt (h1.1.trans h2.1) h3

theorem ev_neg (S : EvSound W hb n r) (ha : AOk A n) (D : Rd W hb cx env M ρ s.heap) {x : PySem.Expr} {pos : Pos} {i : Int} {a : AR} (ea : r.ev cx ρ x = some a) (e : asInt a.v = some i) :
    EvGives W A env M (.UnaryOp .USub x pos) ⟨.int (-i), false⟩ E s := by
  refine wpAny_UnaryOp (wpAny_mono (S _ _ _ _ ea env M A s E ha D) (fun va s1 h1 => ?_) fun _ _ q => q)
  exact wpAny_mono (not_ok e h1.2) (fun v s3 h3 => kt h1.1 h3) fun _ _ q => q

theorem ev_ifexp (S : EvSound W hb n r) (T : TsSound W hb n r) (ha : AOk A n) (D : Rd W hb cx env M ρ s.heap) {t x y : PySem.Expr} {pos : Pos} {c : Bool} {ar : AR} (et : r.ts cx ρ t = some c) (e : r.ev cx ρ (if c = true then x else y) = some ar) :
    EvGives W A env M (.IfExp t x y pos) ar E s := by
  refine wpAny_IfExp (wpAny_mono (T _ _ _ _ et env M A s E ha D) (fun b s1 h1 => ?_) fun _ _ q => q)
  obtain ⟨rfl, k⟩ := h1
  cases b
  · exact wpAny_mono (S _ _ _ _ e env M A s1 E ha (D.kept k)) (fun v s2 h2 => ⟨k.trans h2.1, h2.2⟩) fun _ _ q => q
  · exact wpAny_mono (S _ _ _ _ e env M A s1 E ha (D.kept k)) (fun v s2 h2 => ⟨k.trans h2.1, h2.2⟩) fun _ _ q => q

theorem ev_tuple (S : EvSound W hb n r) (ha : AOk A n) (D : Rd W hb cx env M ρ s.heap) {es : List PySem.Expr} {k : Nat} {pos : Pos} {l : List AV} (e : evs r cx ρ es = some l) (hl : l.length ≤ 4096) :
    EvGives W A env M (.Tuple es k pos) ⟨.tup l, false⟩ E s := by
  refine Tuple_ (wpAny_mono (evs_spliced S ha pos es l s e D) (fun vs s1 h1 => ?_) fun _ _ q => q)
  refine wpAny_newTuple ?_ (by rw [h1.2.length]; exact line_le hl)
  exact kt h1.1 (gTup (D.kept h1.1).bd h1.2 _)

theorem ev_list (S : EvSound W hb n r) (ha : AOk A n) (D : Rd W hb cx env M ρ s.heap) {es : List PySem.Expr} {pos : Pos} {l : List AV} (e : evs r cx ρ es = some l) (hl : l.length ≤ 4096) :
    EvGives W A env M (.List es pos) ⟨.list l, false⟩ E s := by
  refine List_ (wpAny_mono (evs_spliced S ha pos es l s e D) (fun vs s1 h1 => ?_) fun _ _ q => q)
  refine wpAny_newList ?_ (by rw [h1.2.length]; exact line_le hl)
  exact kt h1.1 (gList (D.kept h1.1).bd h1.2 _)

theorem ev_dict0 (D : Rd W hb cx env M ρ s.heap) (hs : sysModules < s.heap.objs.size) {pos : Pos} : EvGives W A env M (.Dict [] [] pos) ⟨.dict [], false⟩ E s := by
  refine wpAny_Dict_empty ?_
  obtain ⟨o, ho, hi⟩ := Heap.dictOf_iff.mp (Heap.DictOf.new (knd := W.kd) s.heap)
  exact kt (Moves.refl _ _) ⟨kept_push _, .dict (vis_iff.mpr ⟨D.bd.new, ho⟩) hi (by simpa using Nat.ne_of_gt hs) .nil⟩

theorem ev_sub (S : EvSound W hb n r) (ha : AOk A n) (D : Rd W hb cx env M ρ s.heap) {x i : PySem.Expr} {pos : Pos} {a b : AR} {c : AV} (ea : r.ev cx ρ x = some a) (eb : r.ev cx ρ i = some b) (e : indexA a.v b.v = some c) :
    EvGives W A env M (.Subscript x i pos) ⟨c, false⟩ E s := by
  refine subs_rule (wpAny_mono (S _ _ _ _ ea env M A s E ha D) (fun va s1 h1 => ?_) fun _ _ q => q)
  have D1 := D.kept h1.1
  refine wpAny_mono (S _ _ _ _ eb env M A s1 E ha D1) (fun vb s2 h2 => ?_) fun _ _ q => q
  obtain ⟨T, id, hl, hT, hg⟩ := indexA_ok (E := E) (A := A) e (h1.2.kept h2.1) h2.2
  exact ⟨T, id, hl, hT, wpAny_mono hg (fun v s3 h3 => kt (h1.1.trans h2.1) h3) fun _ _ q => q⟩

theorem part_ok (S : EvSound W hb n r) (ha : AOk A n) (D : Rd W hb cx env M ρ s.heap) {o : Option PySem.Expr} {b : Option Int} (e : (optA r cx ρ o).bind boundA = some b) :
    wpAny W.md A (evalPart o env) (fun v s' => Kept s s' ∧ IsBound v b ∧ ∀ i, b = some i → 0 ≤ i) E s := by
  refine bnd e fun ov e eb => ?_
  cases o with
  | none =>
    obtain rfl := Option.some.inj e
    obtain rfl := Option.some.inj eb
    exact wpAny_evalPart_none ⟨Moves.refl _ _, rfl, fun _ q => nomatch q⟩
  | some x =>
    refine mpd e fun a hv hx => ?_
    subst hx
    refine bnd (o := asInt a.v) eb fun i h1 eb => ifs eb fun hs eb => ?_
    obtain rfl := Option.some.inj eb
    rw [evalPart_some]
    refine wpAny_mono (S _ _ _ _ hv env M A s E ha D) (fun u s1 h => ⟨h.1, h.2.int' h1, fun j q => ?_⟩) fun _ _ q => q
    obtain rfl := Option.some.inj q
    exact (small_spec hs).1

theorem ev_slice (S : EvSound W hb n r) (ha : AOk A n) (D : Rd W hb cx env M ρ s.heap) {x : PySem.Expr} {lo hi : Option PySem.Expr} {p pos : Pos} {a : AR} {l h : Option Int} {c : AV} (ea : r.ev cx ρ x = some a)
    (bl : (optA r cx ρ lo).bind boundA = some l) (bh : (optA r cx ρ hi).bind boundA = some h) (e : sliceA a.v l h = some c) :
    EvGives W A env M (.Subscript x (.Slice lo hi none p) pos) ⟨c, false⟩ E s := by
  refine subs_rule (wpAny_mono (S _ _ _ _ ea env M A s E ha D) (fun va s1 h1 => ?_) fun _ _ q => q)
  have D1 := D.kept h1.1
  refine wpAny_Slice (wpAny_mono (part_ok S ha D1 bl) (fun ul s2 h2 => ?_) fun _ _ q => q)
  have D2 := D1.kept h2.1
  refine wpAny_mono (part_ok S ha D2 bh) (fun uh s3 h3 => ?_) fun _ _ q => q
  refine wpAny_evalPart_none ?_
  have k3 := h2.1.trans h3.1
  obtain ⟨T, id, hl, hT, hg⟩ := sliceA_ok (E := E) (A := A) (D2.kept h3.1).bd e (h1.2.kept k3) h2.2.1 h3.2.1 h3.2.2
  exact ⟨T, id, hl, hT, wpAny_mono hg (fun v s4 h4 => kt (h1.1.trans k3) h4) fun _ _ q => q⟩
end
end Mine

end

/-! part Exp3 -/
section
set_option maxRecDepth 10000
set_option autoImplicit false
set_option linter.unusedVariables false
namespace Mine
open PySem PySem.W PyProof.Rows

section
variable {W : Wd} {hb : Heap} {cx : CX} {env : Env} {M : List Addr} {ρ : R} {A : Around} {E : Value → Shared → Prop} {s s' : Shared} {r : Rec} {n : Nat}

/-! tests -/

noncomputable abbrev TsGives (W : Wd) (A : Around) (env : Env) (e : PySem.Expr) (b : Bool) (E : Value → Shared → Prop) (s : Shared) : Prop :=
  wpAny W.md A (isTrue e env (eval e env)) (fun c s' => c = b ∧ Kept s s') E s

theorem ts_not (T : TsSound W hb n r) (ha : AOk A n) (D : Rd W hb cx env M ρ s.heap) {x : PySem.Expr} {pos : Pos} {b : Bool} (e : r.ts cx ρ x = some b) : TsGives W A env (.UnaryOp .Not x pos) (!b) E s :=
  isTrue_not (wpAny_mono (T _ _ _ _ e env M A s E ha D) (fun c s1 h => ⟨by rw [h.1], h.2⟩) fun _ _ q => q)

theorem ts_and (T : TsSound W hb n r) (ha : AOk A n) {pos : Pos} : ∀ (es : List PySem.Expr) (b : Bool) (s : Shared) (whole : Sem Value), Rd W hb cx env M ρ s.heap → andA r cx ρ es = some b →
    wpAny W.md A (isTrue (.BoolOp .And es pos) env whole) (fun c s' => c = b ∧ Kept s s') E s
  | [], b, s, whole, D, e => by
    (first | exact none_ne e | obtain rfl := Option.some.inj e | cases e)
    exact isTrue_and_nil ⟨rfl, kept_same⟩
  | x :: es, b, s, whole, D, e => by
    refine bnd e fun c hx e => isTrue_and (wpAny_mono (T _ _ _ _ hx env M A s E ha D) (fun c' s1 h => ?_) fun _ _ q => q)
    obtain ⟨rfl, k⟩ := h
    cases c' with
    | true => exact wpAny_mono (ts_and T ha es b s1 whole (D.kept k) e) (fun c s2 h => ⟨h.1, k.trans h.2⟩) fun _ _ q => q
    | false => exact ⟨Option.some.inj e, k⟩

theorem marks {op : CmpOp} {e : PySem.Expr} (h : notSet e = true) : behindInMarks op e = false := by
  cases e <;> first | rfl | cases h

theorem ts_cmp (S : EvSound W hb n r) (ha : AOk A n) (D : Rd W hb cx env M ρ s.heap) {op : CmpOp} {l x : PySem.Expr} {pos : Pos} {a b : AR} {c : Bool} (hs : notSet x = true) (ea : r.ev cx ρ l = some a) (eb : r.ev cx ρ x = some b) (e : cmpA op a.v b.v = some c) :
    TsGives W A env (.Compare l [op] [x] pos) c E s := by
  refine wpAny_isTrue_Compare1 (wpAny_mono (S _ _ _ _ ea env M A s E ha D) (fun va s1 h1 => ?_) fun _ _ q => q) (marks hs)
  have D1 := D.kept h1.1
  refine wpAny_mono (S _ _ _ _ eb env M A s1 E ha D1) (fun vb s2 h2 => ?_) fun _ _ q => q
  refine wpAny_mono (cmpA_ok (by have := ha.units; lia) e (h1.2.kept h2.1) h2.2) (fun v s3 h3 => ?_) fun _ _ q => q
  obtain ⟨rfl, k⟩ := h3
  exact wpAny_truthy_bool ⟨rfl, (h1.1.trans h2.1).trans k⟩

theorem ts_cmp2 (S : EvSound W hb n r) (ha : AOk A n) (D : Rd W hb cx env M ρ s.heap) {op1 op2 : CmpOp} {l x y : PySem.Expr} {pos : Pos} {a b : AR} {c : Bool} (hs : notSet y = true) (ea : r.ev cx ρ l = some a) (eb : r.ev cx ρ x = some b)
    (e : cmpA op1 a.v b.v = some false ∧ c = false ∨ cmpA op1 a.v b.v = some true ∧ ∃ d, r.ev cx ρ y = some d ∧ cmpA op2 b.v d.v = some c) :
    TsGives W A env (.Compare l [op1, op2] [x, y] pos) c E s := by
  refine isTrue_chain (wpAny_mono (S _ _ _ _ ea env M A s E ha D) (fun va s1 h1 => ?_) fun _ _ q => q) (by show behindInMarks op2 y = false; exact marks hs)
  have D1 := D.kept h1.1
  refine test_link (wpAny_mono (S _ _ _ _ eb env M A s1 E ha D1) (fun vb s2 h2 => ?_) fun _ _ q => q)
  rcases e with ⟨e, rfl⟩ | ⟨e, d, ed, e2⟩
  · refine wpAny_mono (cmpA_ok (by have := ha.units; lia) e (h1.2.kept h2.1) h2.2) (fun v s3 h3 => ?_) fun _ _ q => q
    obtain ⟨rfl, k⟩ := h3
    exact wpAny_truthy_bool ⟨rfl, (h1.1.trans h2.1).trans k⟩
  · refine wpAny_mono (cmpA_ok (by have := ha.units; lia) e (h1.2.kept h2.1) h2.2) (fun v s3 h3 => ?_) fun _ _ q => q
    obtain ⟨rfl, k⟩ := h3
    refine wpAny_truthy_bool ?_
    have k3 := h2.1.trans k
    have D3 := D1.kept k3
    show wpAny _ _ (testChain pos vb [op2] [eval y env]) _ _ _
    refine test_last (wpAny_mono (S _ _ _ _ ed env M A s3 E ha D3) (fun vd s4 h4 => ?_) fun _ _ q => q)
    refine wpAny_mono (cmpA_ok (by have := ha.units; lia) e2 ((h2.2.kept k).kept h4.1) h4.2) (fun v s5 h5 => ?_) fun _ _ q => q
    obtain ⟨rfl, k5⟩ := h5
    exact wpAny_truthy_bool ⟨rfl, ((h1.1.trans k3).trans h4.1).trans k5⟩

theorem ts_plain (S : EvSound W hb n r) (ha : AOk A n) (D : Rd W hb cx env M ρ s.heap) {x : PySem.Expr} {a : AR} {b : Bool} (hp : plainTest x = true) (ea : r.ev cx ρ x = some a) (e : truthA a.v = some b) : TsGives W A env x b E s := by
  refine isTrue_plain (wpAny_mono (S _ _ _ _ ea env M A s E ha D) (fun va s1 h1 => ?_) fun _ _ q => q) (by cases x <;> first | rfl | cases hp)
  exact wpAny_mono (truthA_ok e h1.2) (fun c s2 h2 => ⟨h2.1, h1.1.trans h2.2⟩) fun _ _ q => q

theorem tsCmp_ok (S : EvSound W hb n r) (ha' : AOk A n) (D : Rd W hb cx env M ρ s.heap) {l : PySem.Expr} {ops : List CmpOp} {es : List PySem.Expr} {p : Pos} {b : Bool} (e : tsCmp r cx ρ l ops es = some b) : TsGives W A env (.Compare l ops es p) b E s := by
  refine elm e (fun _ e => bnd e fun o h1 e => bnd e fun x h2 e => ifs e fun hs e => bnd e fun a h3 e => bnd e fun b' h4 e => bnd e fun c h5 e => ?_) fun op h1 e => bnd e fun x h2 e => ifs e fun hs e => bnd e fun a h3 e => bnd e fun b' h4 e => ?_
  · rw [two_inv h1, two_inv h2]
    cases c with
    | true => exact bnd e fun d h6 e => ts_cmp2 S ha' D hs h3 h4 (.inr ⟨h5, d, h6, e⟩)
    | false => exact ts_cmp2 S ha' D hs h3 h4 (.inl ⟨h5, (Option.some.inj e).symm⟩)
  · rw [one_inv h1, one_inv h2]
    exact ts_cmp S ha' D hs h3 h4 e
theorem isNot_inv {op : UnaryOp} (h : isNot op = true) : op = .Not := by cases op <;> first | rfl | cases h
theorem isAnd_inv {op : BoolOp} (h : isAnd op = true) : op = .And := by cases op <;> first | rfl | cases h
theorem tsA_ok (S : EvSound W hb n r) (T : TsSound W hb n r) : TsSound W hb (n + 1) ⟨r.ev, tsA r, r.ex, r.call⟩ := by
  intro cx ρ x b e env M A s E ha D
  have ha' := ha.down
  cases x with
  | UnaryOp op x p =>
    refine ifs (e : tsA r cx ρ (.UnaryOp op x p) = some b) fun h1 e => mpd e fun c h2 h3 => ?_
    rw [isNot_inv h1, ← h3]
    exact ts_not T ha' D h2
  | BoolOp op es p =>
    refine ifs (e : tsA r cx ρ (.BoolOp op es p) = some b) fun h1 e => ?_
    rw [isAnd_inv h1]
    exact ts_and T ha' _ _ _ _ D e
  | Compare l ops es p => exact tsCmp_ok S ha' D e
  | Name x p => exact bnd (e : tsPlain r cx ρ _ = some b) fun a h1 h2 => ts_plain S ha' D rfl h1 h2
  | Call f as ks p => exact bnd (e : tsPlain r cx ρ _ = some b) fun a h1 h2 => ts_plain S ha' D rfl h1 h2
  | Subscript x i p => exact bnd (e : tsPlain r cx ρ _ = some b) fun a h1 h2 => ts_plain S ha' D rfl h1 h2
  | _ => exact none_ne e

/-! methods -/

theorem base_eq {o : PySem.Expr} {name : Str} (h : baseOk o = true) (whole : Sem Value) : attributeBase o name env whole = whole := by
  cases o <;> first | rfl | cases h

theorem few_of {es : List PySem.Expr} {l : List AV} {pos : Pos} (e : evs r cx ρ es = some l) (hn : es.length < 20) :
    ((backTo pos (starEach es env)).all (fun x => !x.1) && (backToKw pos (keywordEach [] env)).all (fun x => x.1.isSome)
      && decide (es.length + ([] : List Keyword).length + (if ([] : List Keyword).isEmpty then 0 else 1) < 30)) = true := by
  rw [evs_all es l pos e]
  have : es.length + ([] : List Keyword).length + (if ([] : List Keyword).isEmpty then 0 else 1) < 30 := by
    show es.length + 0 + 0 < 30
    lia
  rw [decide_eq_true this]
  rfl

theorem ev_meth (S : EvSound W hb n r) (ha : AOk A n) (D : Rd W hb cx env M ρ s.heap) {o : PySem.Expr} {name : Str} {apos pos : Pos} {args : List PySem.Expr} {a : AR} {vs : List AV} {c : AV}
    (hl : lineOk apos pos = true) (hbo : baseOk o = true) (hn : args.length < 20) (ea : r.ev cx ρ o = some a) (ev : evs r cx ρ args = some vs) (e : methA name a.v vs = some c) (ho : a.own = true → (∀ d, c ≠ .items d) ∧ ∀ d, c ≠ .values d) :
    EvGives W A env M (.Call (.Attribute o name apos) args [] pos) ⟨c, false⟩ E s := by
  refine wpAny_Call_method_lateS (base_eq hbo _) (few_of ev hn) hl (wpAny_mono (S _ _ _ _ ea env M A s E ha D) (fun ov s1 h1 => ?_) fun _ _ q => q)
  have D1 := D.kept h1.1
  obtain ⟨T, id, ty, run⟩ := methA_ok (W := W) (A := A) (M := M) (va := ov) e ho
  refine ⟨T, id, ty.plain, ty.slot, ty.ty, (ty.is s1 h1.2).1, (ty.is s1 h1.2).2, ?_⟩
  refine Calls.callWith_builtin (evs_plain args vs pos ev) (evs_args S ha ev D1 fun us s2 k2 h2 => ?_)
  refine wpAny_mono (run s2 us E (D1.kept k2).bd (h1.2.kept k2) h2) (fun v s3 h3 => kt (h1.1.trans k2) h3) fun _ _ q => q

/-! calls of built-in functions -/

theorem ev_call_name {f : Str} {fp pos : Pos} {args : List PySem.Expr} {Q : Value → Shared → Prop} (G : Gl W hb) (D : Rd W hb cx env M ρ s.heap) {u : Value} (hk : kind cx f = some .glob) (hd : f ≠ Str.ofString "__debug__")
    (hv : G.mg f = some u ∨ (G.mg f = none ∧ G.mb f = some u)) (h : wpAny W.md A (callWith pos u [] (backTo pos (starEach args env)) []) Q E s) :
    wpAny W.md A (eval (.Call (.Name f fp) args [] pos) env) Q E s := by
  rw [arm_eval_Call_Name']
  exact wpAny_bind (name_glob G D hk hd hv h)

theorem RpA.one' {h : Heap} {vs : List Value} {l : List AR} {a : AR} (x : RpA W h M vs l) (e : one l = some a) : ∃ v, vs = [v] ∧ ARel W h M v a := by
  rw [one_inv e] at x
  cases x with
  | cons x y => cases y; exact ⟨_, rfl, x⟩
theorem RpA.two' {h : Heap} {vs : List Value} {l : List AR} {q : AR × AR} (x : RpA W h M vs l) (e : two l = some q) : ∃ v u, vs = [v, u] ∧ ARel W h M v q.1 ∧ ARel W h M u q.2 := by
  obtain ⟨a, b⟩ := q
  rw [two_inv e] at x
  cases x with
  | cons x y =>
    obtain ⟨u, rfl, hu⟩ := y.one' rfl
    exact ⟨_, _, rfl, x, hu⟩

theorem min_run (hb : Bd M s.heap) (ha : AOk A n) {us : List Value} {vs : List AR} {c : AV} (e : minA vs = some c) (h : RpA W s.heap M us vs) : wpAny W.md A (call (.builtin "min") us) (Gives' W M s c) E s := by
  refine bnd e fun a h1 e => bnd e fun l h2 e => bnd h2 fun w h3 h4 => bnd e fun x h5 e => ?_
  obtain ⟨v, rfl, hv⟩ := h.one' h1
  have hv := hv.clean' h3
  rw [asList_inv h4] at hv
  cases l with
  | nil => exact none_ne h5
  | cons y r =>
    obtain rfl := Option.some.inj h5
    exact min_ok hb ha.handled (by have := ha.units; lia) e hv
theorem max_run (hb : Bd M s.heap) (ha : AOk A n) {us : List Value} {vs : List AR} {c : AV} (e : maxA vs = some c) (h : RpA W s.heap M us vs) : wpAny W.md A (call (.builtin "max") us) (Gives' W M s c) E s := by
  refine bnd e fun q h1 e => bnd e fun a h2 e => bnd h2 fun w h3 h4 => bnd e fun b h5 e => bnd h5 fun w' h6 h7 => mpd e fun c h8 h9 => ?_
  obtain ⟨v, u, rfl, hv, hu⟩ := h.two' h1
  subst h9
  exact max_ok hb ha.handled (by have := ha.units; lia) h8 (asTup_inv h4 ▸ hv.clean' h3) (asTup_inv h7 ▸ hu.clean' h6)

theorem ev_builtin (S : EvSound W hb n r) (G : Gl W hb) (ha : AOk A n) (D : Rd W hb cx env M ρ s.heap) {f : Str} {fp pos : Pos} {args : List PySem.Expr} {vs : List AR} {c : AV}
    (hk : kind cx f = some .glob) (ev : evrs r cx ρ args = some vs) (e : builtinA f vs = some c) : EvGives W A env M (.Call (.Name f fp) args [] pos) ⟨c, false⟩ E s := by
  have hp := evrs_plain (env := env) args vs pos ev
  have viaB : ∀ (nm : String), f = sN nm → nm ∈ ["len", "sum", "min", "max", "isinstance"] → sN nm ≠ Str.ofString "__debug__" →
      (∀ us s1, Kept s s1 → RpA W s1.heap M us vs → wpAny W.md A (call (.builtin nm) us) (Gives' W M s1 c) E s1) → EvGives W A env M (.Call (.Name f fp) args [] pos) ⟨c, false⟩ E s := by
    rintro nm rfl hm hd run
    refine ev_call_name G D hk hd (.inr (G.bi nm hm)) (Calls.callWith_builtin hp (evrs_args S ha ev D fun us s1 k h => ?_))
    exact wpAny_mono (run us s1 k h) (fun v s2 h2 => kt k h2) fun _ _ q => q
  refine ifb e (fun hf e => viaB "min" hf (by decide) (by decide) fun us s1 k h => min_run (D.kept k).bd ha e h) fun _ e => ifb e (fun hf e => viaB "max" hf (by decide) (by decide) fun us s1 k h => max_run (D.kept k).bd ha e h) fun _ e =>
    bnd e fun a h1 e => ifb e (fun hf e => bnd e fun m h2 e => ifs e fun hs e => ?_) fun _ e => ifb e (fun hf e => bnd e fun m h2 e => ifs e fun hs e => ?_) fun _ e => ifs e fun hf e => viaB "sum" hf (by decide) (by decide) fun us s1 k h => ?_
  · obtain rfl := Option.some.inj e
    refine viaB "len" hf (by decide) (by decide) fun us s1 k h => ?_
    obtain ⟨v, rfl, hv⟩ := h.one' h1
    exact len_ok h2 hs hv
  · obtain rfl := Option.some.inj e
    subst hf
    refine ev_call_name G D hk (by decide) (.inr (G.ty "range" (by decide))) (PyProof.Rows.callWith_type hp (evrs_args S ha ev D fun us s1 k h => ?_))
    obtain ⟨v, rfl, hv⟩ := h.one' h1
    exact wpAny_mono (range_ok (D.kept k).bd h2 hv) (fun v s2 h2 => kt k h2) fun _ _ q => q
  · obtain ⟨v, rfl, hv⟩ := h.one' h1
    exact sum_ok ha.handled e hv

theorem ev_isinst (S : EvSound W hb n r) (G : Gl W hb) (ha : AOk A n) (D : Rd W hb cx env M ρ s.heap) {fp tp pos : Pos} {x : PySem.Expr} {i : Int} {a : AR} (hx : notStar x = true)
    (hk : kind cx (sN "isinstance") = some .glob) (ht : kind cx (sN "tuple") = some .glob) (ev : r.ev cx ρ x = some a) (hi : asInt a.v = some i) :
    EvGives W A env M (.Call (.Name (sN "isinstance") fp) [x, .Name (sN "tuple") tp] [] pos) ⟨.bool false, false⟩ E s := by
  refine ev_call_name G D hk (by decide) (.inr (G.bi "isinstance" (by decide))) ?_
  have e1 : starEach [x, .Name (sN "tuple") tp] env = [(false, eval x env), (false, eval (.Name (sN "tuple") tp) env)] := by rw [starEach_cons hx]; rfl
  rw [e1]
  refine Calls.callWith_builtin rfl (Calls.evalArgs_plain (Calls.spliced_cons ?_))
  refine wpAny_mono (S _ _ _ _ ev env M A s E ha D) (fun v s1 h1 => ?_) fun _ _ q => q
  have D1 := D.kept h1.1
  refine Calls.spliced_cons (name_glob G D1 ht (by decide) (.inr (G.ty "tuple" (by decide))) (Calls.spliced_nil ?_))
  obtain ⟨t, rfl⟩ := h1.2.int' hi
  exact IsiPair.int_tuple ⟨h1.1.trans (kept_toks _), show Rp W _ _ _ from .bool _⟩
end
end Mine

end

/-! part Exp4 -/
section
set_option maxRecDepth 10000
set_option autoImplicit false
set_option linter.unusedVariables false
namespace Mine
open PySem PySem.W PyProof.Rows

section
variable {W : Wd} {hb : Heap} {cx : CX} {env : Env} {M : List Addr} {ρ : R} {A : Around} {E : Value → Shared → Prop} {s s' : Shared} {r : Rec} {n : Nat}

theorem frz_lookup_debug : isDef (Str.ofString "__debug__") theDefs = false := by decide +kernel

theorem ev_def (S : EvSound W hb n r) (G : Gl W hb) (C : CallSound W hb G.fn n r) (ha : AOk A n) (D : Rd W hb cx env M ρ s.heap) {f : Str} {fp pos : Pos} {args : List PySem.Expr} {vs : List AV} {v : AV}
    (hk : kind cx f = some .glob) (hd : isDef f theDefs = true) (ev : evs r cx ρ args = some vs) (e : r.call f (vs.map .frz) = some (v, none)) :
    EvGives W A env M (.Call (.Name f fp) args [] pos) ⟨v, false⟩ E s := by
  have hdb : f ≠ Str.ofString "__debug__" := by
    rintro rfl
    rw [frz_lookup_debug] at hd; cases hd
  have hlk : (theDefs.lookup f).isSome := by
    unfold isDef at hd
    exact (Bool.and_eq_true_iff.mp hd).2
  obtain ⟨d, hdl⟩ := Option.isSome_iff_exists.mp hlk
  obtain ⟨o, fd, ho, hdat, hfn⟩ := G.fns f d hdl
  refine ev_call_name G D hk hdb (.inl (G.fng f hd)) (Calls.callWith_function (evs_args S ha ev D fun us s1 k h => ⟨⟨k.hle _ _ (D.base _ _ ho), hdat⟩, ?_⟩))
  have D1 := D.kept k
  exact wpAny_mono (C f vs v hlk e M A s1 E us ha D1.base D1.bd h) (fun x s2 h2 => kt k h2) fun _ _ q => q

/-! the class TupleComp -/

theorem inst_at {W : Wd} {h : Heap} {M : List Addr} {v : Value} {l : AV} (x : Rp W (vis h M) v (.inst l)) : ∃ a d n e, v = .ref a ∧ InstAt h a (instObj W.C d) W.C (some (dictOf [e] n)) ∧ (∃ t, e.key = .str csl t) ∧ Rp W (vis h M) e.val l := by
  cases x with
  | @inst a d n e l h1 h2 h3 h4 =>
    refine ⟨a, d, n, e, rfl, ⟨(vis_iff.mp h1).2, rfl, rfl, (vis_iff.mp h2).2⟩, ?_, h4⟩
    cases hk : e.key with
    | str x t =>
      rw [hk] at h3
      exact ⟨t, by rw [beq_iff_eq.mp (show (x == csl) = true from h3)]⟩
    | _ => rw [hk] at h3; cases h3

theorem ref_there {W : Wd} {h : Heap} {M : List Addr} {v : Value} {l : AV} (x : Rp W (vis h M) v l) : handedIn v = true := by
  cases x <;> rfl

theorem ev_attr (S : EvSound W hb n r) (G : Gl W hb) (ha : AOk A n) (D : Rd W hb cx env M ρ s.heap) {o : PySem.Expr} {pos : Pos} {l : AV} (hbo : baseOk o = true) (ea : r.ev cx ρ o = some ⟨.inst l, false⟩) :
    EvGives W A env M (.Attribute o csl pos) ⟨l, false⟩ E s := by
  unfold EvGives
  rw [arm_eval_Attribute, base_eq hbo]
  refine wpAny_bind (wpAny_mono (S _ _ _ _ ea env M A s E ha D) (fun ov s1 h1 => wpAny_bind (wpAny_standAt ?_)) fun _ _ q => q)
  have D1 := D.kept h1.1
  have X := G.kin.keeps D1.base
  obtain ⟨a, d, m, e, rfl, I, ⟨t, ht⟩, hv⟩ := inst_at h1.2
  obtain ⟨g1, g2⟩ := plainGet_of G.getA
  have hl : lookIn csl (dictOf [e] m) = some (some e.val) := by
    rw [lookIn_dict]
    unfold getL
    have : (e.key.isStr csl) = true := by rw [ht]; exact beq_self_eq_true _
    simp [List.find?_cons, this]
  refine wpAny_bind (wpAny_holding (get_value X I g1 (findObj_own G.hasD G.cslA rfl hl) (ref_there hv) ?_))
  exact wpAny_bind (wpAny_letTemporaryGo (wpAny_pure ⟨h1.1.trans (kept_toks _), rp_kept hv (kept_toks _)⟩))

theorem call_meth {o : PySem.Expr} {name : Str} {apos pos : Pos} {args : List PySem.Expr} {Q : Value → Shared → Prop}
    (hbase : attributeBase o name env (eval o env) = eval o env)
    (hfew : ((backTo pos (starEach args env)).all (fun x => !x.1) && (backToKw pos (keywordEach [] env)).all (fun x => x.1.isSome)
      && decide (args.length + ([] : List Keyword).length + (if ([] : List Keyword).isEmpty then 0 else 1) < 30)) = true)
    (hline : (apos.endLine == pos.line) = true)
    (h : wpAny W.md A (eval o env) (fun ov s₁ => ∀ pl, wpAny W.md A (getMethod ov name pl) (fun p s₂ => wpAny W.md A (callWith pos p.1 p.2 (backTo pos (starEach args env)) []) Q E s₂) E s₁) E s) :
    wpAny W.md A (eval (.Call (.Attribute o name apos) args [] pos) env) Q E s := by
  rw [arm_eval_Call, hbase]
  refine wpAny_bind (wpAny_mono h (fun ov s₁ h₁ => ?_) fun _ _ e => e)
  refine wpAny_bind (wpAny_standAt ?_)
  have hform : methodCallForm (args.length + ([] : List Keyword).length) (backTo pos (starEach args env)) (backToKw pos (keywordEach [] env)) = true := hfew
  have hpos : methodCallPos true o env apos pos = pure pos := by unfold methodCallPos; simp [hline]
  unfold methodCall
  rw [hform]
  refine wpAny_bind (wpAny_holding (wpAny_mono (h₁ _) (fun p s₂ h₂ => ?_) fun _ _ q => q))
  exact wpAny_bind (wpAny_of_eq hpos h₂)

theorem cmp_def : (theDefs.lookup (sN "compare")).isSome := by decide +kernel
theorem cmp_csl : (csl == sN "compare") = false := by decide

theorem ev_compare (S : EvSound W hb n r) (G : Gl W hb) (C : CallSound W hb G.fn n r) (ha : AOk A n) (D : Rd W hb cx env M ρ s.heap) {o : PySem.Expr} {apos pos : Pos} {args : List PySem.Expr} {l : AV} {vs : List AV} {v : AV}
    (hl : lineOk apos pos = true) (hbo : baseOk o = true) (hn : args.length < 20) (ea : r.ev cx ρ o = some ⟨.inst l, false⟩) (ev : evs r cx ρ args = some vs) (e : r.call (sN "compare") (.frz (.inst l) :: vs.map .frz) = some (v, none)) :
    EvGives W A env M (.Call (.Attribute o (sN "compare") apos) args [] pos) ⟨v, false⟩ E s := by
  refine call_meth (base_eq hbo _) (few_of ev hn) hl (wpAny_mono (S _ _ _ _ ea env M A s E ha D) (fun ov s1 h1 pl => ?_) fun _ _ q => q)
  have D1 := D.kept h1.1
  have X := G.kin.keeps D1.base
  obtain ⟨a, d, m, e', rfl, I, ⟨t, ht⟩, hv⟩ := inst_at h1.2
  obtain ⟨g1, g2⟩ := plainGet_of G.getA
  have hs : shadowIn (some (dictOf [e'] m)) (sN "compare") = some false := by
    show (lookIn _ _).map _ = _
    rw [lookIn_dict]
    unfold getL
    have h1 : (e'.key.isStr (sN "compare")) = false := by rw [ht]; exact cmp_csl
    have h2 : e'.refKey = false := by unfold DictEntry.refKey; rw [ht]
    simp [List.find?_cons, h1, h2]
  refine method_fn X I g1 g2 G.cmp G.cmpFn hs ?_
  obtain ⟨dd, hdl⟩ := Option.isSome_iff_exists.mp cmp_def
  obtain ⟨o', fd, ho, hdat, hfn⟩ := G.fns _ dd hdl
  refine Calls.callWith_function (evs_args S ha ev D1 fun us s2 k h => ⟨⟨k.hle _ _ (D1.base _ _ ho), hdat⟩, ?_⟩)
  have D2 := D1.kept k
  refine wpAny_mono (C (sN "compare") (.inst l :: vs) v cmp_def e M A s2 E (.ref a :: us) ha D2.base D2.bd (.cons (rp_kept h1.2 k) h)) (fun x s3 h3 => kt (h1.1.trans k) h3) fun _ _ q => q

end
end Mine

end

/-! part Exp5 -/
section
set_option maxRecDepth 10000
set_option autoImplicit false
set_option linter.unusedVariables false
namespace Mine
open PySem PySem.W PyProof.Rows

section
variable {W : Wd} {hb : Heap} {cx : CX} {env : Env} {M : List Addr} {ρ : R} {A : Around} {E : Value → Shared → Prop} {s s' : Shared} {r : Rec} {n : Nat}

theorem tc_weight (C : Addr) (rest : List Value) (kw : List (Str × Value)) : (Code.builtin "type.__call__" ⟨.ref C :: rest, kw⟩).weight = 1 := by kernel_rfl

/-- __init__ stores what it is given -/
theorem init_ok (G : Gl W hb) {h : Heap} {x dx : Addr} {v : Value} {R : Result → Shared → Prop} (hroom : A.depth < recursionLimit) (base : HLe hb h)
    (hk : ∀ b o, h.get? b = some o → s.heap.get? b = some o) (hx : s.heap.get? x = some (instObj W.C dx)) (hdx : s.heap.get? dx = some (dictOf [] 0)) (fx : h.get? x = none) (fdx : h.get? dx = none) (hne : x ≠ dx) (hsz : h.objs.size ≤ s.heap.objs.size)
    (hR : ∀ h' tk e m t, (∀ b o, h.get? b = some o → h'.get? b = some o) → h'.get? x = some (instObj W.C dx) → h'.get? dx = some (dictOf [e] m) → e.key = .str csl t → e.val = v → R (.ok (.ret .none)) { s with heap := h', toks := tk }) :
    codeAny W.md A (.call (.ref G.fI) ⟨[.ref x, v], []⟩) R s := by
  obtain ⟨d, ⟨o, fd, ho, hdat, hfn⟩, hpar, hkind, hco, hgen, hself, hcsl, p1, p2, p3, p4, hbody⟩ := G.initAt
  have base' : HLe hb s.heap := fun b o e => hk b o (base b o e)
  have X := G.kin.keeps base'
  refine codeAny_call_cells hroom (base' _ _ ho) hdat (G.nolim.keeps base') (by obtain ⟨c, o, vs, t, r⟩ := hfn.code; exact ⟨c, o, vs, t, r.1, base' _ _ r.2.1, r.2.2⟩) (hfn.body.trans (congrArg _ hbody)) (hfn.bind [.ref x, v] (by rw [hpar]; rfl)) hfn.clo ?_ ?_ (by rw [hfn.scope]; exact hco) (by rw [hfn.scope]; exact hgen) (by rw [hfn.scope]; exact hkind)
  · intro y hy
    rw [hpar] at hy
    rw [hfn.scope]
    simp only [List.zip_cons_cons, List.zip_nil_right, List.mem_cons, List.not_mem_nil, or_false] at hy
    rcases hy with rfl | rfl
    · exact .inl hself
    · exact .inl hcsl
  · intro s₁ x₁
    generalize hen : callEnvC fd s.heap.objs.size G.fI = env at x₁ ⊢
    have hL : env.locals = s.heap.objs.size := by rw [← hen]; rfl
    have hkd : env.scope.kind = .function := by rw [← hen]; show fd.scope.kind = _; rw [hfn.scope]; exact hkind
    have k1 : env.kindOf (sN "self") = some .local := by rw [← hen]; show fd.scope.names.lookup _ = _; rw [hfn.scope]; exact hself
    have k2 : env.kindOf csl = some .local := by rw [← hen]; show fd.scope.names.lookup _ = _; rw [hfn.scope]; exact hcsl
    have hm : ∀ q u, q = sN "self" ∧ u = .ref x ∨ q = csl ∧ u = v → bindL env.kindOf (d.params.zip [.ref x, v]) (fun _ => none) q = some u := by
      rw [hpar]
      show ∀ q u, _ → bindL env.kindOf [(sN "self", .ref x), (csl, v)] (fun _ => none) q = some u
      simp only [bindL, k1, k2, if_true]
      rintro q u (⟨rfl, rfl⟩ | ⟨rfl, rfl⟩)
      · rw [if_neg (by decide), if_pos rfl]
      · rw [if_pos rfl]
    refine wpAny_execs_cons (wpAny_Assign_stores ?_ rfl rfl)
    refine NameLC x₁ hkd k2 (hm _ _ (.inr ⟨rfl, rfl⟩)) ?_ (by decide)
    show wpAny _ _ (assign (.Attribute (.Name (sN "self") p1) csl p2) env v) _ _ _
    rw [arm_assign_Attribute]
    refine wpAny_bind (wpAny_holding (NameLC x₁ hkd k1 (hm _ _ (.inl ⟨rfl, rfl⟩)) ?_ (by decide)))
    refine wpAny_bind (wpAny_standAt (wpAny_bind (wpAny_holding ?_)))
    have kk := x₁.toInCall.keep
    have F : Fr h env.locals s₁.heap (bindL env.kindOf (d.params.zip [.ref x, v]) fun _ => none) := ⟨x₁.toInCall.ns, fun b o e => kk b o (hk b o e), by rw [hL]; exact hsz⟩
    have lx : x ≠ env.locals := by rw [hL]; exact Nat.ne_of_lt (Heap.lt_size hx)
    have ldx : dx ≠ env.locals := by rw [hL]; exact Nat.ne_of_lt (Heap.lt_size hdx)
    have N : News h env.locals s₁.heap ([(x, instObj W.C dx)] ++ (dx, dictOf [] 0) :: []) := by
      intro p hp
      simp only [List.cons_append, List.nil_append, List.mem_cons, List.not_mem_nil, or_false] at hp
      rcases hp with rfl | rfl
      · exact ⟨kk _ _ hx, lx, fx⟩
      · exact ⟨kk _ _ hdx, ldx, fdx⟩
    have I : InstAt s₁.heap x (instObj W.C dx) W.C (some (dictOf [] 0)) := ⟨kk _ _ hx, rfl, rfl, kk _ _ hdx⟩
    have X1 := X.keeps kk
    refine set_plain X1 I G.setA ?_
    refine osa_dict (s := { s₁ with toks := s₁.toks + 1 }) (F) N X1 I rfl G.over G.taker G.hasD rfl (by intro p hp; simp at hp; subst hp; exact hne) (by simp) (od' := dictOf [⟨PyData.keyHash W.w.params csl, .str csl (s₁.toks + 1), v⟩] 1) rfl rfl (by simp) fun h' F' N' => ?_
    refine wpAny_release (wpAny_execs_nil ?_)
    obtain ⟨h₁, tk, rfl⟩ := x₁.toInCall.same
    exact hR h' _ _ _ _ F'.keep (N' (x, instObj W.C dx) (.head _)).1 (N' (dx, dictOf [⟨PyData.keyHash W.w.params csl, .str csl (tk + 1), v⟩] 1) (.tail _ (.head _))).1 rfl rfl

theorem ev_make (S : EvSound W hb n r) (G : Gl W hb) (ha : AOk A (n + 1)) (D : Rd W hb cx env M ρ s.heap) {fp pos : Pos} {args : List PySem.Expr} {v : AV}
    (hk : kind cx (sN "TupleComp") = some .glob) (ev : evs r cx ρ args = some [v]) :
    EvGives W A env M (.Call (.Name (sN "TupleComp") fp) args [] pos) ⟨.inst v, false⟩ E s := by
  refine ev_call_name G D hk (by decide) (.inl G.tc) ?_
  refine callWith_of (P := fun h => G.K.In h) (by rw [evs_plain args _ pos ev]; rfl) (fun h X => keeps_K G.keep h X) (evs_args S ha.down ev D fun us s1 k h => ?_)
  have D1 := D.kept k
  refine ⟨G.kin.keeps D1.base, ?_⟩
  cases h with
  | cons h1 h2 =>
    (first | exact none_ne h2 | obtain rfl := Option.some.inj h2 | cases h2)
    rename_i u
    refine wpAny_call ?_
    have X := G.kin.keeps D1.base
    obtain ⟨hh, g, dd, t, os⟩ := s1
    have fr : ∀ i, hh.get? (hh.objs.size + i) = none := fun i => fresh_none _ _ (Nat.le_add_right _ _)
    have kp : ∀ b o, hh.get? b = some o → ((hh.push emptyDict).push (instObj W.C hh.objs.size)).get? b = some o := fun b o e => Heap.get?_push_of_some _ (Heap.get?_push_of_some _ e)
    have hx : ((hh.push emptyDict).push (instObj W.C hh.objs.size)).get? (hh.objs.size + 1) = some (instObj W.C hh.objs.size) := by heap_get
    have hdx : ((hh.push emptyDict).push (instObj W.C hh.objs.size)).get? hh.objs.size = some emptyDict := Heap.get?_push_of_some _ (Heap.get?_push_size _ rfl)
    refine make_core (makes_of X G.mkC) (looks_findIn X G.init) (fun self => bind_fn X self G.initFn) (.inl rfl) ?_
    refine init_ok G (s := ⟨(hh.push emptyDict).push (instObj W.C hh.objs.size), g, dd, t, os⟩) (h := hh) (dx := hh.objs.size) ?_ D1.base kp hx hdx (fr 1) (fr 0) (Nat.succ_ne_self _) (by rw [Heap.size_push, Heap.size_push]; lia) ?_
    · show A.depth + _ < _
      rw [tc_weight]
      have := ha.depth
      lia
    · intro h' tk e m tt hk' hx' hd' hkey hval
      refine ⟨rfl, k.trans ⟨h', tk, rfl, fun b o _ e => hk' b o e⟩, ?_⟩
      have nM : ∀ i, hh.objs.size + i ∉ M := fun i q => by
        obtain ⟨o, ho⟩ := D1.bd _ q
        rw [fr i] at ho; (first | exact none_ne ho | obtain rfl := Option.some.inj ho | cases ho)
      show Rp W (vis h' M) _ _
      refine .inst (vis_iff.mpr ⟨nM 1, hx'⟩) (vis_iff.mpr ⟨nM 0, hd'⟩) (by rw [hkey]; exact beq_self_eq_true _) ?_
      rw [hval]
      exact h1.mono (gle_vis (fun b o _ e => hk' b o e) fun _ q => .inl q)
end
end Mine

end

/-! part Comp1 -/
section
set_option maxRecDepth 10000
set_option autoImplicit false
set_option linter.unusedVariables false
namespace Mine
open PySem PySem.W PyProof.Rows

section
variable {W : Wd} {hb : Heap} {cx : CX} {env : Env} {M : List Addr} {ρ : R} {A : Around} {E : Value → Shared → Prop} {s s' : Shared} {r : Rec} {n : Nat}

/-! unpacking -/

theorem Bd.moves {N m : List Addr} {s s' : Shared} (hbd : Bd N s.heap) (k : Moves m s s') (hm : ∀ a ∈ m, a ∉ N) : Bd N s'.heap := fun a ha =>
  let ⟨o, ho⟩ := hbd a ha; ⟨o, k.get (fun q => hm a q ha) ho⟩

theorem draw_ok {I : Addr} {N : List Addr} {l : List AV} {S : Nat → Heap → Prop} (T : ItP W A N I tgN l S) (hIN : I ∉ N) : ∀ (k i : Nat) (s : Shared) (Q : List Value → Shared → Prop), S i s.heap → Bd N s.heap → i + k ≤ l.length →
    (∀ vs s', Moves [I] s s' → S (i + k) s'.heap → RpL W (vis s'.heap (I :: N)) vs ((l.drop i).take k) → Q vs s') → wpAny W.md A (draw (.ref I) k) Q E s
  | 0, i, s, Q, st, hbd, hle, hQ => wpAny_pure (hQ [] s (Moves.refl _ _) st (by simpa using RpL.nil))
  | k + 1, i, s, Q, st, hbd, hle, hQ => by
    have hlt : i < l.length := by lia
    have ha : l[i]? = some l[i] := by simp [hlt]
    show wpAny _ _ (pyNext (.ref I) >>= _) _ _ _
    refine wpAny_bind (wpAny_mono (T.step (k := fun v => do let t ← holding [v] (draw (.ref I) k); pure (v :: t)) (Q' := Q) (E' := E) hbd ha st fun v s2 k2 st2 rv => ?_) (fun o s1 h1 => ?_) fun _ _ q => q)
    · refine wpAny_bind (wpAny_holding (draw_ok T hIN k (i + 1) s2 _ st2 (hbd.moves k2 (by simpa using hIN)) (by lia) fun vs s3 k3 st3 r3 => wpAny_pure (hQ (v :: vs) s3 (k2.trans k3) (by rw [show i + (k + 1) = i + 1 + k by lia]; exact st3) ?_)))
      rw [List.drop_eq_getElem_cons hlt, List.take_succ_cons]
      exact .cons (rv.mono (gle_it k3)) r3
    · obtain ⟨v, rfl, h1⟩ := h1
      exact h1

theorem iterable_at {T id : String} {v : Value} {Q : Bool → Shared → Prop} (ht : s.TypeIs v T) (hs : Slot T "__iter__" id) (h : Q false s) : wpAny W.md A (notIterableAtAll v) Q E s := by
  unfold notIterableAtAll
  exact wpAny_bind (wpAny_specialOf ht hs.lookup (wpAny_pure h))

theorem chars_len (x : Str) : (chars x).length = x.length := (List.length_map ..).trans Array.length_toList
theorem unpackA_len {a : AV} {k : Nat} {l : List AV} (e : unpackA a k = some l) : l.length = k := by
  induction a using AV.casesOn with
  | tup l0 =>
    refine ifs e fun h e => ?_
    obtain rfl := Option.some.inj e
    exact h
  | str x =>
    refine ifs e fun h e => ?_
    obtain rfl := Option.some.inj e
    exact (chars_len x).trans h.1
  | _ => exact none_ne e
theorem unpackA_iter {v : Value} {a : AV} {k : Nat} {l : List AV} (ra : Rp W (vis s.heap M) v a) (e : unpackA a k = some l) : iterA tgN a = some l ∧ ∃ T id, s.TypeIs v T ∧ Slot T "__iter__" id := by
  induction a using AV.casesOn with
  | tup l0 =>
    refine ifs e fun h e => ?_
    obtain ⟨a, rfl, n, vs, ho, _⟩ := (show ARel W s.heap M _ ⟨_, false⟩ from ra).tup
    exact ⟨e, "tuple", _, ⟨_, ho, rfl⟩, PySem.F.slot_tuple_iter⟩
  | str x =>
    refine ifs e fun h e => ?_
    obtain ⟨t, rfl⟩ := ra.str_inv
    exact ⟨tif h.2 e, "str", _, typeIs_str _ _ _, PySem.F.slot_str_iter⟩
  | _ => exact none_ne e

theorem unpackItems_ok (hh : A.handled = none) (hb : Bd M s.heap) {v : Value} {a : AV} {k : Nat} {l : List AV} (ra : Rp W (vis s.heap M) v a) (e : unpackA a k = some l) :
    wpAny W.md A (unpackItems v k none) (fun vs s' => Kept s s' ∧ RpL W (vis s'.heap M) vs l) E s := by
  obtain ⟨hi, T, id, hT, hs⟩ := unpackA_iter ra e
  have hl := unpackA_len e
  unfold unpackItems
  refine wpAny_bind (iterable_at hT hs ?_)
  dsimp only [Bool.false_eq_true, if_false]
  refine wpAny_bind (wpAny_holding (wpAny_mono (iter_ok (tg := tgN) hb ra hi) (fun it s2 h => ?_) fun _ _ q => q))
  obtain ⟨I, S, rfl, hI, hsz, hal, hIN, k2, Ts, _, st⟩ := h
  simp only [List.nil_append] at hIN Ts
  refine wpAny_bind (wpAny_holding (draw_ok (Ts A hh) hIN k 0 s2 _ st (hb.kept k2) (by lia) fun vs s3 k3 st3 r3 => ?_))
  have e1 : (l.drop 0).take k = l := by rw [List.drop_zero, ← hl, List.take_length]
  rw [e1] at r3
  have hlen := r3.length
  rw [if_neg (by lia)]
  refine wpAny_bind (wpAny_holding ((Ts A hh).done s3 _ _ (by rw [hl]; simpa using st3) fun s4 k4 => ?_))
  dsimp only [Option.isSome_none, Bool.false_eq_true, if_false]
  refine wpAny_pure ?_
  have k4' := k3.trans k4
  refine ⟨k2.next k4' fun c hc => .inr (by simp at hc; subst hc; rw [hI]; exact get_new _), ?_⟩
  exact (r3.mono (gle_it k4)).mono (gle_less fun c hc => by simp [hc])
end
end Mine

end

/-! part Comp2 -/
section
set_option maxRecDepth 10000
set_option autoImplicit false
set_option linter.unusedVariables false
namespace Mine
open PySem PySem.W PyProof.Rows

/-! the scope of a comprehension -/

theorem closure_for {env : Env} (f : Str × NameKind → List (Str × Addr) → Sem (ForInStep (List (Str × Addr))))
    (hf : ∀ n k c, f (n, k) c = if (k == NameKind.free) = true then (do let a ← cellOf env n; pure (.yield ((n, a) :: c))) else pure (.yield c)) :
    ∀ (names : List (Str × NameKind)) (acc : List (Str × Addr)), (∀ p ∈ acc, env.cells.lookup p.1 = some p.2) → (∀ p ∈ names, p.2 = .free → (env.cells.lookup p.1).isSome) →
      ∃ cl, (forIn names acc f : Sem (List (Str × Addr))) = pure cl ∧ (∀ p ∈ cl, env.cells.lookup p.1 = some p.2) ∧ ∀ x, (x ∈ acc.map (·.1) ∨ (x, NameKind.free) ∈ names) → x ∈ cl.map (·.1)
  | [], acc, hi, _ => ⟨acc, by rw [List.forIn_nil], hi, fun x h => h.elim id fun q => nomatch q⟩
  | (n, k) :: r, acc, hi, hn => by
    rw [List.forIn_cons, hf]
    by_cases hk : (k == NameKind.free) = true
    · have hk' : k = .free := by simpa using hk
      obtain ⟨a, ha⟩ := Option.isSome_iff_exists.mp (hn (n, k) (.head _) hk')
      obtain ⟨cl, e1, e2, e3⟩ := closure_for f hf r ((n, a) :: acc) (fun p hp => by
        rcases List.mem_cons.mp hp with rfl | hp
        · exact ha
        · exact hi p hp) fun p hp => hn p (.tail _ hp)
      refine ⟨cl, ?_, e2, fun x hx => e3 x ?_⟩
      · rw [if_pos hk]
        have : cellOf env n = pure a := by
          unfold cellOf
          rw [ha]
        rw [this]
        exact e1
      · rcases hx with hx | hx
        · exact .inl (by simp at hx ⊢; exact .inr hx)
        · rcases List.mem_cons.mp hx with e | hx
          · cases e; exact .inl (by simp)
          · exact .inr hx
    · obtain ⟨cl, e1, e2, e3⟩ := closure_for f hf r acc hi fun p hp => hn p (.tail _ hp)
      refine ⟨cl, ?_, e2, fun x hx => e3 x ?_⟩
      · rw [if_neg hk]
        exact e1
      · rcases hx with hx | hx
        · exact .inl hx
        · rcases List.mem_cons.mp hx with e | hx
          · cases e; exact absurd rfl hk
          · exact .inr hx

theorem lookup_some {α : Type} : ∀ {l : List (Str × α)} {x : Str}, x ∈ l.map (·.1) → ∃ a, l.lookup x = some a
  | (k, v) :: r, x, h => by
    rw [List.lookup_cons]
    cases hb : x == k with
    | true => exact ⟨v, rfl⟩
    | false =>
      refine lookup_some (l := r) ?_
      simp only [List.map_cons, List.mem_cons] at h
      rcases h with h | h
      · simp [h] at hb
      · exact h

theorem closure_ok {cs : Scope} {env : Env} (h : ∀ p ∈ cs.names, p.2 = .free → (env.cells.lookup p.1).isSome) :
    ∃ cl, closureFor cs env = pure cl ∧ ∀ x, (x, NameKind.free) ∈ cs.names → cl.lookup x = env.cells.lookup x := by
  obtain ⟨cl, e1, e2, e3⟩ := closure_for (env := env) (fun p c => if (p.2 == NameKind.free) = true then (do let a ← cellOf env p.1; pure (.yield ((p.1, a) :: c))) else pure (.yield c)) (fun _ _ _ => rfl) cs.names [] (fun _ h => nomatch h) h
  refine ⟨cl, ?_, fun x hx => ?_⟩
  · have e : closureFor cs env = (forIn cs.names [] (fun p c => if (p.2 == NameKind.free) = true then (do let a ← cellOf env p.1; pure (.yield ((p.1, a) :: c))) else pure (.yield c)) >>= fun c => pure c) := by
      dsimp only [closureFor]
    rw [e, e1]; rfl
  · obtain ⟨a, ha⟩ := lookup_some (e3 x (.inr hx))
    rw [ha, e2 _ (mem_of_lookup ha)]

theorem lookup_relabel {env : Env} (P : Str → NameKind → NameKind) : ∀ {names : List (Str × NameKind)} {x : Str}, (names.map fun p => (p.1, P p.1 p.2)).lookup x = (names.lookup x).map (P x)
  | [], _ => rfl
  | (n, k) :: r, x => by
    simp only [List.map_cons, List.lookup_cons]
    cases hx : x == n with
    | true => simp [beq_iff_eq.mp hx]
    | false => exact lookup_relabel (env := env) P

noncomputable def relK (env : Env) (n : Str) (k : NameKind) : NameKind := if (k == .free && env.scope.kind == .function && env.kindOf n == some .cell) = true then .cell else k
theorem relabel_lookup {cs : Scope} {env : Env} {x : Str} : (relabel cs env).names.lookup x = (cs.names.lookup x).map (relK env x) := by
  rw [← lookup_relabel (env := env)]
  show List.lookup x (List.map _ cs.names) = _
  congr 1
  apply List.map_congr_left
  rintro ⟨n, k⟩ _
  unfold relK
  dsimp only
  split <;> rfl

structure ScOk (sc cs : Scope) : Prop where
  kind : cs.kind = .function
  loc : ∀ x ∈ cs.names, x.2 = .local → cs.names.lookup x.1 = some .local
  free : ∀ x ∈ cs.names, x.2 = .free → sc.names.lookup x.1 = some .cell
  cell : ∀ x ∈ cs.names, x.2 ≠ .cell

theorem scopeOk_spec {sc cs : Scope} (h : scopeOk sc cs = true) : ScOk sc cs := by
  unfold scopeOk at h
  simp only [Bool.and_eq_true, List.all_eq_true, beq_iff_eq] at h
  refine ⟨h.1, fun x hx he => ?_, fun x hx he => ?_, fun x hx he => ?_⟩
  · have := h.2 x hx
    rw [he] at this
    simpa using this
  · have := h.2 x hx
    rw [he] at this
    simp only [Bool.and_eq_true, beq_iff_eq] at this
    exact this.1
  · have := h.2 x hx
    rw [he] at this
    simp at this

/-! the state inside -/

section
variable {W : Wd} {hb : Heap} {cx : CX} {cs : Scope} {cl : List (Str × Addr)} {env : Env} {M N : List Addr} {ρ : R} {A : Around} {E : Value → Shared → Prop} {s0 s s' : Shared} {r : Rec} {n : Nat} {L : Addr}

noncomputable def CVars (W : Wd) (g : G) (m : Str → Option Value) (comp : List (Str × AV)) : Prop := ∀ x v, comp.lookup x = some v → ∃ u, m x = some u ∧ Rp W g u v

structure CInv (W : Wd) (L : Addr) (N : List Addr) (s0 s : Shared) (comp : List (Str × AV)) : Prop where
  kept : Kept s0 s
  bd : Bd N s.heap
  vars : ∃ m, s.heap.Ns L m ∧ CVars W (vis s.heap N) m comp

theorem CInv.next {c : List (Str × AV)} (I : CInv W L N s0 s c) (k : Kept s s') : CInv W L N s0 s' c :=
  let ⟨m, hm, hv⟩ := I.vars
  ⟨I.kept.trans k, I.bd.kept k, m, hm.keeps k.hle, fun x v h => let ⟨u, h1, h2⟩ := hv x v h; ⟨u, h1, rp_kept h2 k⟩⟩

theorem kind_out {sc : Scope} {x : Str} {k : K} (h : kind ⟨sc, none⟩ x = some k) : (k = .var ∧ (sc.names.lookup x = some .local ∨ sc.names.lookup x = some .cell)) ∨ (k = .glob ∧ sc.names.lookup x = some .globalImplicit) := by
  refine bnd (e := h) fun nk h1 h => ?_
  cases nk with
  | «local» => exact .inl ⟨(Option.some.inj h).symm, .inl h1⟩
  | cell => exact .inl ⟨(Option.some.inj h).symm, .inr h1⟩
  | globalImplicit => exact .inr ⟨(Option.some.inj h).symm, h1⟩
  | _ => exact none_ne h
/-- what a name is inside -/
theorem kind_in {sc cs : Scope} {x : Str} {k : K} (h : kind ⟨sc, some cs⟩ x = some k) : (k = .comp ∧ cs.names.lookup x = some .local) ∨ (k = .var ∧ cs.names.lookup x = some .free ∧ sc.names.lookup x = some .cell) ∨ (k = .glob ∧ cs.names.lookup x = some .globalImplicit) := by
  refine bnd (e := h) fun nk h1 h => ?_
  cases nk with
  | «local» => exact .inl ⟨(Option.some.inj h).symm, h1⟩
  | free => exact ifs (e := h) fun h2 h => .inr (.inl ⟨(Option.some.inj h).symm, h1, h2⟩)
  | globalImplicit => exact .inr (.inr ⟨(Option.some.inj h).symm, h1⟩)
  | _ => exact none_ne h

/-- what the comprehension's own environment reads -/
theorem CInv.rd (D : Rd W hb ⟨cx.sc, none⟩ env M ρ s0.heap) (so : ScOk cx.sc cs) (hcl : ∀ x, (x, NameKind.free) ∈ cs.names → cl.lookup x = env.cells.lookup x) {comp : List (Str × AV)}
    (I : CInv W L N s0 s comp) (hN : ∀ a ∈ N, a ∈ M ∨ s0.heap.get? a = none) (hM : ∀ a ∈ M, a ∈ N) : Rd W hb ⟨cx.sc, some cs⟩ (compEnvC cs cl L env) N { ρ with comp := comp } s.heap := by
  have hsc : env.scope = cx.sc := D.scp rfl
  have gl : GLe (vis s0.heap M) (vis s.heap N) := gle_vis (fun b o _ e => I.kept.get (by simp) e) hN
  refine ⟨fun b o e => I.kept.hle b o (D.base b o e), so.kind, D.glo, D.blt, I.bd, fun h => (nomatch h), fun x h => (nomatch h), fun x h => ?_, fun x v h1 h2 => ?_, fun x v h1 h2 => ?_⟩
  · have hl : cs.names.lookup x = some .globalImplicit := by
      rcases kind_in h with ⟨q, _⟩ | ⟨q, _⟩ | ⟨_, h⟩
      · cases q
      · cases q
      · exact h
    show (relabel cs env).names.lookup x = _
    rw [relabel_lookup, hl]
    rfl
  · have hl : cs.names.lookup x = some .free ∧ cx.sc.names.lookup x = some .cell := by
      rcases kind_in h1 with ⟨q, _⟩ | ⟨_, h⟩ | ⟨q, _⟩
      · cases q
      · exact h
      · cases q
    have hko : env.kindOf x = some .cell := by show env.scope.names.lookup x = _; rw [hsc]; exact hl.2
    have hk1 : kind ⟨cx.sc, none⟩ x = some .var := bndI hl.2 rfl
    obtain ⟨u, hu, q⟩ := D.var x v hk1 h2
    rcases q with ⟨e, _⟩ | ⟨_, c, hc, hx⟩
    · rw [hko] at e; (first | exact none_ne e | obtain rfl := Option.some.inj e | cases e)
    · refine ⟨u, ?_, .inr ⟨?_, c, ?_, hx.keeps I.kept.hle⟩⟩
      · generalize v.read = ar at hu ⊢
        obtain ⟨av, ow⟩ := ar
        cases ow with
        | false => exact Rp.mono gl hu
        | true =>
          obtain ⟨a, e, hm, o⟩ := hu
          exact ⟨a, e, hM a hm, o.mono (fun _ q => I.kept.get (by simp) q) gl⟩
      · show (relabel cs env).names.lookup x = _
        rw [relabel_lookup, hl.1]
        show some (relK env x .free) = _
        unfold relK
        rw [if_pos (by rw [D.knd, hko]; rfl)]
      · show cl.lookup x = _
        rw [hcl x (mem_of_lookup hl.1)]; exact hc
  · have hl : cs.names.lookup x = some .local := by
      rcases kind_in h1 with ⟨_, h⟩ | ⟨q, _⟩ | ⟨q, _⟩
      · exact h
      · cases q
      · cases q
    obtain ⟨m, hm, hv⟩ := I.vars
    obtain ⟨u, hu, hr⟩ := hv x v h2
    refine ⟨u, hr, .inl ⟨?_, m, hm, hu⟩⟩
    show (relabel cs env).names.lookup x = _
    rw [relabel_lookup, hl]
    rfl

theorem comp_kind {x : Str} (h1 : kind ⟨cx.sc, some cs⟩ x = some .comp) : (compEnvC cs cl L env).kindOf x = some .local := by
  have hl : cs.names.lookup x = some .local := by
    rcases kind_in h1 with ⟨_, h⟩ | ⟨q, _⟩ | ⟨q, _⟩
    · exact h
    · cases q
    · cases q
  show (relabel cs env).names.lookup x = _
  rw [relabel_lookup, hl]
  rfl

/-- one name is bound -/
theorem comp_store (so : ScOk cx.sc cs) {comp : List (Str × AV)} (I : CInv W L N s0 s comp) (hL : L ∈ N) (fL : s0.heap.get? L = none) {x : Str} {pos : Pos} {u : Value} {v : AV} (hk : kind ⟨cx.sc, some cs⟩ x = some .comp) (hx : comp.lookup x = none)
    (hr : Rp W (vis s.heap N) u v) : wpAny W.md A (assign (.Name x pos) (compEnvC cs cl L env) u) (fun _ s' => CInv W L N s0 s' ((x, v) :: comp) ∧ Moves [L] s s') E s := by
  obtain ⟨m, hm, hv⟩ := I.vars
  refine wpAny_assign_Name (wpAny_storeName_local (comp_kind hk) hm (fun h' hn' hs' => ?_) (by show ((cs.kind == .class) || (cs.kind == .module && _)) = false; rw [so.kind]; rfl))
  have k : Moves [L] s { s with heap := h', toks := s.toks + 1 } := moves_heap fun b o hb e => hs'.extBut b o (fun q => hb (by simp [q]; rfl)) e
  have g : GLe (vis s.heap N) (vis h' N) := gle_moves k (by simpa using hL)
  refine ⟨⟨I.kept.next k fun a ha => .inr (by simp at ha; rw [ha]; exact fL), ?_, _, hn', ?_⟩, k⟩
  · intro a ha
    by_cases e : a = L
    · subst e
      obtain ⟨o, es, ep, ho, q⟩ := hn'
      exact ⟨o, ho⟩
    · obtain ⟨o, ho⟩ := I.bd a ha
      exact ⟨o, k.get (by simpa using e) ho⟩
  · intro y w hy
    rw [List.lookup_cons] at hy
    cases hb : y == x with
    | true =>
      rw [hb] at hy; (first | exact none_ne hy | obtain rfl := Option.some.inj hy | cases hy)
      exact ⟨u, by simp only [beq_iff_eq.mp hb, if_true], hr.mono g⟩
    | false =>
      rw [hb] at hy
      obtain ⟨u', h1, h2⟩ := hv y w hy
      exact ⟨u', by simp only [show ¬ y = x by simpa using hb, if_false]; exact h1, h2.mono g⟩

theorem rpL_two {g : G} {vs : List Value} {a b : AV} (x : RpL W g vs [a, b]) : ∃ v u, vs = [v, u] ∧ Rp W g v a ∧ Rp W g u b := x.two' (q := (a, b)) rfl

theorem freshC_spec {cx : CX} {ρ : R} {x : Str} (h : freshC cx ρ x = true) : kind cx x = some .comp ∧ ρ.comp.lookup x = none :=
  have h := Bool.and_eq_true_iff.mp h
  ⟨isK_inv h.1, Option.isNone_iff_eq_none.mp h.2⟩
theorem bind2_spec {cx : CX} {ρ ρ1 : R} {x y : Str} {v : AV} (e : bind2 cx ρ x y v = some ρ1) : ∃ a b, unpackA v 2 = some [a, b] ∧ kind cx x = some .comp ∧ ρ.comp.lookup x = none ∧ kind cx y = some .comp ∧ ρ.comp.lookup y = none ∧ x ≠ y ∧ ρ1 = { ρ with comp := (y, b) :: (x, a) :: ρ.comp } := by
  refine bnd e fun q h1 e => bnd h1 fun l h1 h2 => ifs e fun h e => ?_
  have hx := freshC_spec h.1
  have hy := freshC_spec h.2.1
  exact ⟨q.1, q.2, h1.trans (congrArg some (two_inv h2)), hx.1, hx.2, hy.1, hy.2, h.2.2, (Option.some.inj e).symm⟩
theorem bindT_spec {cx : CX} {ρ ρ1 : R} {t : PySem.Expr} {v : AV} (e : bindT cx ρ t v = some ρ1) : (∃ x p, t = .Name x p ∧ kind cx x = some .comp ∧ ρ.comp.lookup x = none ∧ ρ1 = { ρ with comp := (x, v) :: ρ.comp }) ∨
    (∃ x px y py k p, t = .Tuple [.Name x px, .Name y py] k p ∧ bind2 cx ρ x y v = some ρ1) := by
  induction t using PySem.Expr.casesOn with
  | Name x p =>
    refine ifs (e : bindT cx ρ (.Name x p) v = some ρ1) fun h e => ?_
    exact .inl ⟨_, _, rfl, (freshC_spec h).1, (freshC_spec h).2, (Option.some.inj e).symm⟩
  | Tuple ts k p =>
    refine bnd (e : bindT cx ρ (.Tuple ts k p) v = some ρ1) fun q h1 e => bnd e fun x h2 e => bnd e fun y h3 e => ?_
    obtain ⟨p1, h2⟩ := nameOf_some h2
    obtain ⟨p2, h3⟩ := nameOf_some h3
    refine .inr ⟨x, p1, y, p2, k, p, ?_, e⟩
    rw [two_inv h1, h2, h3]
  | _ => exact none_ne e

theorem bindT_ok (so : ScOk cx.sc cs) (hh : A.handled = none) {t : PySem.Expr} {v : AV} {ρ1 : R} (e : bindT ⟨cx.sc, some cs⟩ ρ t v = some ρ1) (I : CInv W L N s0 s ρ.comp) (hL : L ∈ N) (fL : s0.heap.get? L = none) {u : Value} (hr : Rp W (vis s.heap N) u v) :
    ρ1 = { ρ with comp := ρ1.comp } ∧ wpAny W.md A (assign t (compEnvC cs cl L env) u) (fun _ s' => CInv W L N s0 s' ρ1.comp ∧ Moves [L] s s') E s := by
  rcases bindT_spec e with ⟨x, p, rfl, h1, h2, rfl⟩ | ⟨x, px, y, py, k, p, rfl, e⟩
  · exact ⟨rfl, comp_store so I hL fL h1 h2 hr⟩
  · obtain ⟨a, b, hu, h1, h2, h3, h4, hne, rfl⟩ := bind2_spec e
    refine ⟨rfl, ?_⟩
    rw [arm_assign_Tuple]
    refine wpAny_bind (wpAny_standAt ?_)
    unfold unpack
    refine wpAny_bind (wpAny_holding (wpAny_mono (unpackItems_ok hh I.bd hr hu) (fun vs s1 h => ?_) fun _ _ q => q))
    obtain ⟨k1, rl⟩ := h
    obtain ⟨u1, u2, rfl, r1, r2⟩ := rpL_two rl
    show wpAny _ _ (assignInOrder [assign (.Name x px) (compEnvC cs cl L env), assign (.Name y py) (compEnvC cs cl L env)] [u1, u2]) _ _ _
    have I1 := I.next k1
    refine wpAny_bind (wpAny_holding (wpAny_mono (comp_store so I1 hL fL h1 h2 r1) (fun _ s2 h => ?_) fun _ _ q => q))
    obtain ⟨I2, k2⟩ := h
    have hy : List.lookup y ((x, a) :: ρ.comp) = none := by
      rw [List.lookup_cons]
      have : (y == x) = false := by simpa using fun q : y = x => hne q.symm
      rw [this]; exact h4
    refine wpAny_bind (wpAny_holding (wpAny_mono (comp_store so I2 hL fL h3 hy (r2.mono (gle_moves k2 (by simpa using hL)))) (fun _ s3 h => ?_) fun _ _ q => q))
    exact wpAny_pure ⟨h.1, ((Moves.of_kept k1).trans k2).trans h.2⟩
end
end Mine

end

/-! part Comp3 -/
section
set_option maxRecDepth 10000
set_option autoImplicit false
set_option linter.unusedVariables false
namespace Mine
open PySem PySem.W PyProof.Rows

/-! one turn of a comprehension's loop -/

noncomputable def emitOf : PySem.Expr → Value → Env → Sem Unit
  | .ListComp elt _ _ _, acc, env => do let _ ← call (.builtin "list.append") [acc, ← eval elt env]
  | .DictComp k v _ _ _, acc, env => do
    let kv ← eval k env
    let vv ← holding [kv] (eval v env)
    match acc with
    | .ref d => do
      standAt { k.pos with endLine := v.pos.endLine, endCol := v.pos.endCol }
      holding [kv, vv] (dictSet d kv vv)
    | _ => unsupported "internal:dictcomp"
  | _, _, _ => unsupported ""

noncomputable def isComp (e : PySem.Expr) : Bool := by induction e using PySem.Expr.casesOn with | ListComp => exact true | DictComp => exact true | _ => exact false

noncomputable def innerOf (e : PySem.Expr) (d : Nat) (acc : Value) (env : Env) : Sem Unit :=
  match (clausesOf e)[d + 1]? with
  | some g' => do
    let x ← eval g'.iter env
    standAt g'.iter.pos
    let x ← if g'.is_async != 0 then foldedIterable g'.iter x else foldedSetIterable g'.iter env x
    let _ ← runOwn (.compStart e (d + 1) (← holding [x] (if g'.is_async != 0 then asyncIter x else pyIter x)) acc env) env
  | none => emitOf e acc env

theorem turn_eq {e t iter : PySem.Expr} {ifs : List PySem.Expr} {d : Nat} (he : isComp e = true) (hg : (clausesOf e)[d]? = some ⟨t, iter, ifs, 0⟩) (it acc : Value) (env : Env) :
    compTurn e d it acc env = (do
      standAt iter.pos
      match ← pyNext it with
      | none => pure (.done .next)
      | some v =>
        letOwnedTupleGo t it v
        assign t env v
        let mut ok := true
        for c in ifs do
          if ok then ok ← isTrue c env (eval c env)
        if ok then
          innerOf e d acc env
        again (.compLoop e d it acc env)) := by
  cases e <;> first | (cases he; done) | skip
  · rename_i elt gens sc pos
    dsimp only [clausesOf] at hg
    unfold compTurn innerOf
    dsimp only [clausesOf]
    rw [hg]
    cases hge : gens[d + 1]? with
    | none => rfl
    | some g' =>
      dsimp only
      cases hb : (g'.is_async != 0) <;> simp only [bne_self_eq_false, Bool.false_eq_true, if_false, if_true, bind_assoc, pure_bind] <;> rfl
  · rename_i k v gens sc pos
    dsimp only [clausesOf] at hg
    unfold compTurn innerOf
    dsimp only [clausesOf]
    rw [hg]
    cases hge : gens[d + 1]? with
    | none =>
      cases acc <;> simp only [bne_self_eq_false, Bool.false_eq_true, if_false, if_true, bind_assoc, pure_bind, emitOf] <;> rfl
    | some g' =>
      dsimp only
      cases hb : (g'.is_async != 0) <;> simp only [bne_self_eq_false, Bool.false_eq_true, if_false, if_true, bind_assoc, pure_bind] <;> rfl

section
variable {W : Wd} {A : Around} {E : Value → Shared → Prop} {s : Shared} {R : Result → Shared → Prop}

theorem comp_start {e t iter : PySem.Expr} {ifs : List PySem.Expr} {d : Nat} {it acc : Value} {env : Env} (he : isComp e = true) (hg : (clausesOf e)[d]? = some ⟨t, iter, ifs, 0⟩)
    (h0 : codeAny W.md A (.compLoop e d it acc env) R s)
    (h : ∀ (Q : Value → Shared → Prop) (E : Value → Shared → Prop), Q it s → wpAny W.md A (pyIter it) Q E s) : codeAny W.md A (.compStart e d it acc env) R s := by
  refine codeAny_of_tree ?_
  have hA : ∀ c : Code, c.weight = 0 → c.cUnits = 0 → A.under c = A := fun c h1 h2 => Around.under_of_weight h1 h2
  have go : wpAny W.md A ((compStart e d it acc env).onRaise (fun x => do noteFrame x env; standAt theWindowsPlace)) (fun fin s' => match fin with | .done f => R (.ok f) s' | .again c' => c'.quiet = true ∧ codeAny W.md A c' R s')
      (fun e s' => R (.error e) s') s := by
    refine wpAny_notedAt ?_
    unfold compStart
    rw [hg]
    show wpAny _ _ (ask >>= _) _ _ s
    refine wpAny_bind (wpAny_askSetting (wpAny_ite ?_))
    have hq : (Code.compLoop e d it acc env).quiet = true := by cases e <;> first | rfl | cases he
    split
    · first
        | exact wpAny_bind (wpAny_pure (wpAny_pure (And.intro hq h0)))
        | exact wpAny_pure (And.intro hq h0)
    · first
        | exact wpAny_bind (wpAny_rule (wpAny_bind (wpAny_standAt (wpAny_bind (h _ _ (wpAny_pure (And.intro hq h0)))))))
        | (refine wpAny_bind (wpAny_rule ?_); show wpAny _ _ (standAt iter.pos >>= _) _ _ s; exact wpAny_bind (wpAny_standAt (wpAny_bind (h _ _ (wpAny_pure (And.intro hq h0))))))
  cases e <;> first | exact go | cases he

/-- one turn -/
theorem comp_turn {e t iter : PySem.Expr} {ifs : List PySem.Expr} {d : Nat} {I : Addr} {acc : Value} {env : Env} (he : isComp e = true) (hg : (clausesOf e)[d]? = some ⟨t, iter, ifs, 0⟩)
    (h : ∀ E, wpAny W.md A (pyNext (.ref I)) (fun r s₁ => match r with
      | none => R (.ok .next) s₁
      | some v => wpAny W.md A (letOwnedTupleGo t (.ref I) v) (fun _ s₂ => wpAny W.md A (assign t env v) (fun _ s₃ =>
          wpAny W.md A (forIn ifs true fun c r => if r = true then do let ok ← isTrue c env (eval c env); pure (ForInStep.yield ok) else pure (ForInStep.yield r)) (fun ok s₄ =>
            if ok = true then wpAny W.md A (innerOf e d acc env) (fun _ s₅ => codeAny W.md A (.compLoop e d (.ref I) acc env) R s₅) E s₄
            else codeAny W.md A (.compLoop e d (.ref I) acc env) R s₄) E s₃) E s₂) E s₁) E s) :
    codeAny W.md A (.compLoop e d (.ref I) acc env) R s := by
  refine codeAny_of_tree ?_
  have hq : (Code.compLoop e d (.ref I) acc env).quiet = true := by cases e <;> first | rfl | cases he
  have go : wpAny W.md A ((compTurn e d (.ref I) acc env).onRaise (fun x => do noteFrame x env; theTreesLotGoes x)) (fun fin s' => match fin with | .done f => R (.ok f) s' | .again c' => c'.quiet = true ∧ codeAny W.md A c' R s')
      (fun e s' => R (.error e) s') s := by
    refine wpAny_noted ?_
    rw [turn_eq he hg]
    refine wpAny_bind (wpAny_standAt (wpAny_bind (wpAny_mono (h _) (fun r s₁ h₁ => ?_) fun _ _ q => q)))
    cases r with
    | none => exact wpAny_pure h₁
    | some v =>
      refine wpAny_bind (wpAny_mono h₁ (fun _ s₂ h₂ => wpAny_bind (wpAny_mono h₂ (fun _ s₃ h₃ => wpAny_bind (wpAny_mono h₃ (fun ok s₄ h₄ => ?_) fun _ _ q => q)) fun _ _ q => q)) fun _ _ q => q)
      cases ok with
      | false => exact wpAny_pure ⟨hq, h₄⟩
      | true => exact wpAny_bind (wpAny_mono h₄ (fun _ s₅ h₅ => wpAny_pure ⟨hq, h₅⟩) fun _ _ q => q)
  cases e <;> first | exact go | cases he
end
end Mine

end

/-! part Comp4 -/
section
set_option maxRecDepth 10000
set_option autoImplicit false
set_option linter.unusedVariables false
namespace Mine
open PySem PySem.W PyProof.Rows

/-- what has been gathered at an address -/
structure AccT (W : Wd) (B : Addr) (β : Type) where
  at_ : List β → Heap → G → Prop
  mono : ∀ acc h h' g g', at_ acc h g → (∀ o, h.get? B = some o → h'.get? B = some o) → GLe g g' → at_ acc h' g'

noncomputable def accL (W : Wd) (B : Addr) : AccT W B AV := ⟨fun acc h g => LstAt W h g B acc, fun acc h h' g g' x k y => LstAt.mono x k y⟩
noncomputable def accD (W : Wd) (B : Addr) : AccT W B (Str × AV) := ⟨fun acc h g => DctAt W h g B (acc.foldl (fun d p => put d p.1 p.2) []), fun acc h h' g g' x k y => DctAt.mono x k y⟩

section
variable {W : Wd} {hb : Heap} {cx : CX} {cs : Scope} {cl : List (Str × Addr)} {env : Env} {M N : List Addr} {ρ : R} {A : Around} {E : Value → Shared → Prop} {s0 s s' : Shared} {r : Rec} {n : Nat} {L B I : Addr} {β : Type}

theorem bindT_sub {t : PySem.Expr} {v : AV} {ρ1 : R} (e : bindT cx ρ t v = some ρ1) : ∀ y w, ρ.comp.lookup y = some w → ρ1.comp.lookup y = some w := by
  intro y w h
  rcases bindT_spec e with ⟨x, p, rfl, h1, h2, rfl⟩ | ⟨x, px, y', py, k, p, rfl, e⟩
  · show List.lookup y ((x, v) :: ρ.comp) = some w
    rw [List.lookup_cons]
    split
    · rename_i hb; rw [beq_iff_eq.mp hb, h2] at h; (first | exact none_ne h | obtain rfl := Option.some.inj h | cases h)
    · exact h
  · obtain ⟨a, b, hu, h1, h2, h3, h4, hne, rfl⟩ := bind2_spec e
    show List.lookup y ((y', b) :: (x, a) :: ρ.comp) = some w
    rw [List.lookup_cons]
    split
    · rename_i hb; rw [beq_iff_eq.mp hb, h4] at h; (first | exact none_ne h | obtain rfl := Option.some.inj h | cases h)
    · rw [List.lookup_cons]
      split
      · rename_i hb; rw [beq_iff_eq.mp hb, h2] at h; (first | exact none_ne h | obtain rfl := Option.some.inj h | cases h)
      · exact h

theorem CInv.sub {c c' : List (Str × AV)} (I : CInv W L N s0 s c') (h : ∀ y w, c.lookup y = some w → c'.lookup y = some w) : CInv W L N s0 s c :=
  let ⟨m, hm, hv⟩ := I.vars
  ⟨I.kept, I.bd, m, hm, fun x v q => hv x v (h x v q)⟩
/-- something that is hidden moves -/
theorem CInv.moves {c : List (Str × AV)} (I : CInv W L N s0 s c) {m : List Addr} (k : Moves m s s') (hm : ∀ a ∈ m, a ∈ N ∧ a ≠ L ∧ s0.heap.get? a = none) (hal : ∀ a ∈ m, ∃ o, s'.heap.get? a = some o) : CInv W L N s0 s' c := by
  obtain ⟨mm, hn, hv⟩ := I.vars
  refine ⟨I.kept.next k fun a ha => .inr (hm a ha).2.2, fun a ha => ?_, mm, ?_, fun x v h => ?_⟩
  · by_cases e : a ∈ m
    · exact hal a e
    · obtain ⟨o, ho⟩ := I.bd a ha
      exact ⟨o, k.get e ho⟩
  · obtain ⟨o, es, ep, ho, q⟩ := hn
    exact ⟨o, es, ep, k.get (fun q => (hm L q).2.1 rfl) ho, q⟩
  · obtain ⟨u, h1, h2⟩ := hv x v h
    exact ⟨u, h1, h2.mono (gle_moves k fun a ha => (hm a ha).1)⟩
theorem CInv.less {c : List (Str × AV)} (I : CInv W L N s0 s c) {N' : List Addr} (h : ∀ a ∈ N', a ∈ N) : CInv W L N' s0 s c :=
  let ⟨m, hm, hv⟩ := I.vars
  ⟨I.kept, fun a ha => I.bd a (h a ha), m, hm, fun x v q => let ⟨u, h1, h2⟩ := hv x v q; ⟨u, h1, h2.mono (gle_less h)⟩⟩

theorem tests_ok (T : TsSound W hb n r) (ha : AOk A n) {ifs : List PySem.Expr} {b : Bool} {cenv : Env} (e : testsA r cx ρ ifs = some b) (D : Rd W hb cx cenv N ρ s.heap) :
    wpAny W.md A (forIn ifs true fun c r => if r = true then do let ok ← isTrue c cenv (eval c cenv); pure (ForInStep.yield ok) else pure (ForInStep.yield r)) (fun c s' => c = b ∧ Kept s s') E s := by
  cases ifs with
  | nil => obtain rfl := Option.some.inj e; exact wpAny_tests_nil ⟨rfl, kept_same⟩
  | cons c l =>
    refine bnd (o := one (c :: l)) e fun a h1 e => ?_
    rw [one_inv h1]
    exact wpAny_tests_one (T _ _ _ _ e cenv N A s E ha D)

/-- what a whole loop leaves -/
noncomputable def CompPost (W : Wd) (L B I : Addr) (N : List Addr) (s0 : Shared) (comp0 : List (Str × AV)) (T : AccT W B β) (res : List β) (s : Shared) : Result → Shared → Prop := fun rr s' =>
  rr = .ok .next ∧ CInv W L N s0 s' comp0 ∧ T.at_ res s'.heap (vis s'.heap (I :: N)) ∧ Moves [I, L, B] s s'

theorem comp_loop (Ts : TsSound W hb n r) (ha : AOk A n) (D : Rd W hb ⟨cx.sc, none⟩ env M ρ s0.heap) (so : ScOk cx.sc cs) (hcl : ∀ x, (x, NameKind.free) ∈ cs.names → cl.lookup x = env.cells.lookup x)
    {e t iter : PySem.Expr} {ifs : List PySem.Expr} {d : Nat} (he : isComp e = true) (hg : (clausesOf e)[d]? = some ⟨t, iter, ifs, 0⟩)
    {T : AccT W B β} {emit : R → Option β} {inner : Option (R → List β → Option (List β))} {l : List AV} {S : Nat → Heap → Prop} (It : ItP W A N I t l S)
    (hIN : I ∉ N) (hLN : L ∈ N) (hBN : B ∈ N) (hLB : L ≠ B) (hN : ∀ a ∈ I :: N, a ∈ M ∨ s0.heap.get? a = none) (hMN : ∀ a ∈ M, a ∈ N) (fL : s0.heap.get? L = none) (fI : s0.heap.get? I = none) {comp0 : List (Str × AV)}
    (hstep : ∀ ρ1 acc acc' s, stepA emit inner ρ1 acc = some acc' → ρ1 = { ρ with comp := ρ1.comp } → CInv W L (I :: N) s0 s ρ1.comp → T.at_ acc s.heap (vis s.heap (I :: N)) →
      ∀ E, wpAny W.md A (innerOf e d (.ref B) (compEnvC cs cl L env)) (fun _ s' => CInv W L (I :: N) s0 s' ρ1.comp ∧ T.at_ acc' s'.heap (vis s'.heap (I :: N)) ∧ Moves [L, B] s s') E s) :
    ∀ (l' : List AV) (i : Nat) (s : Shared) (acc res : List β), l' = l.drop i → i ≤ l.length → S i s.heap → CInv W L (I :: N) s0 s comp0 → T.at_ acc s.heap (vis s.heap (I :: N)) →
      compA r ⟨cx.sc, some cs⟩ emit t ifs inner { ρ with comp := comp0 } l' acc = some res →
      codeAny W.md A (.compLoop e d (.ref I) (.ref B) (compEnvC cs cl L env)) (CompPost W L B I N s0 comp0 T res s) s
  | [], i, s, acc, res, hr, hi, st, ci, at0, ee => by
    have hin : i = l.length := Nat.le_antisymm hi (Nat.le_of_sub_eq_zero ((List.length_drop (i := i)).symm.trans (congrArg List.length hr.symm)))
    subst hin
    obtain rfl := Option.some.inj ee
    refine comp_turn he hg fun E => It.done s _ _ st fun s' k => ?_
    have hIL : I ≠ L := fun q => hIN (q ▸ hLN)
    have hIB : B ≠ I := fun q => hIN (q ▸ hBN)
    refine ⟨rfl, ?_, ?_, k.mono fun a ha => .inl (by simp at ha; simp [ha])⟩
    · obtain ⟨m, hm, hv⟩ := ci.vars
      refine ⟨ci.kept.next k fun a ha => .inr (by simp at ha; rw [ha]; exact fI), fun a ha => ?_, m, ?_, fun x v h => ?_⟩
      · obtain ⟨o, ho⟩ := ci.bd a (List.mem_cons_of_mem _ ha)
        exact ⟨o, k.get (by simp; rintro rfl; exact hIN ha) ho⟩
      · obtain ⟨o, es, ep, ho, q⟩ := hm
        exact ⟨o, es, ep, k.get (by simp; exact hIL.symm) ho, q⟩
      · obtain ⟨u, h1, h2⟩ := hv x v h
        exact ⟨u, h1, (h2.mono (gle_it k)).mono (gle_less fun a ha => List.mem_cons_of_mem _ ha)⟩
    · exact T.mono _ _ _ _ _ at0 (fun o ho => k.get (by simpa using hIB) ho) (gle_it k)
  | a :: l', i, s, acc, res, hr, hi, st, ci, at0, ee => by
    have hai : l[i]? = some a := (List.head?_drop (l := l) (i := i)).symm.trans (congrArg List.head? hr.symm)
    have hlt : i < l.length := (List.getElem?_eq_some_iff.mp hai).1
    have hr' : l' = l.drop (i + 1) := (congrArg List.tail hr).trans List.tail_drop
    have hIL : I ≠ L := fun q => hIN (q ▸ hLN)
    have hIB : I ≠ B := fun q => hIN (q ▸ hBN)
    refine bnd ee fun ρ1 hbind e1 => bnd e1 fun c ht e2 => bnd e2 fun acc' hst e3 => ?_
    clear e1 e2 ee
    refine comp_turn he hg fun E => ?_
    refine wpAny_mono (It.turn i a s (fun v s2 => wpAny W.md A (assign t (compEnvC cs cl L env) v) (fun _ s₃ =>
          wpAny W.md A (forIn ifs true fun c r => if r = true then do let ok ← isTrue c (compEnvC cs cl L env) (eval c (compEnvC cs cl L env)); pure (ForInStep.yield ok) else pure (ForInStep.yield r)) (fun ok s₄ =>
            if ok = true then wpAny W.md A (innerOf e d (.ref B) (compEnvC cs cl L env)) (fun _ s₅ => codeAny W.md A (.compLoop e d (.ref I) (.ref B) (compEnvC cs cl L env)) (CompPost W L B I N s0 comp0 T res s) s₅) E s₄
            else codeAny W.md A (.compLoop e d (.ref I) (.ref B) (compEnvC cs cl L env)) (CompPost W L B I N s0 comp0 T res s) s₄) E s₃) E s2) E (fun a ha => ci.bd a (List.mem_cons_of_mem _ ha)) hai st fun v s2 k2 st2 rv => ?_) (fun o s1 h1 => ?_) fun _ _ q => q
    · -- the item is there
      have ci2 : CInv W L (I :: N) s0 s2 comp0 := ci.moves k2 (by simp; exact ⟨hIL, fI⟩) (by simp; exact It.alive _ _ st2)
      have at2 : T.at_ acc s2.heap (vis s2.heap (I :: N)) := T.mono _ _ _ _ _ at0 (fun o ho => k2.get (by simp; exact hIB.symm) ho) (gle_it k2)
      obtain ⟨hρ1, hasg⟩ := bindT_ok (E := E) (A := A) (env := env) (cl := cl) (s0 := s0) so ha.handled hbind ci2 (List.mem_cons_of_mem _ hLN) fL rv
      refine wpAny_mono hasg (fun _ s3 h3 => ?_) fun _ _ q => q
      obtain ⟨ci3, k3⟩ := h3
      have at3 : T.at_ acc s3.heap (vis s3.heap (I :: N)) := T.mono _ _ _ _ _ at2 (fun o ho => k3.get (by simp; exact hLB.symm) ho) (gle_moves k3 (by simp [hLN]))
      have st3 : S (i + 1) s3.heap := It.keep _ _ _ st2 fun b o hb e => k3.get (by simp; rintro rfl; exact hb hLN) e
      have hρ1' : ρ1 = { ρ with comp := ρ1.comp } := by rw [hρ1]
      have D3 : Rd W hb ⟨cx.sc, some cs⟩ (compEnvC cs cl L env) (I :: N) ρ1 s3.heap := by
        have := ci3.rd D so hcl hN (fun a ha => List.mem_cons_of_mem _ (hMN a ha))
        rw [hρ1']; exact this
      have mm3 : Moves [I, L, B] s s3 := (k2.mono fun a ha => .inl (by simp at ha; simp [ha])).trans (k3.mono fun a ha => .inl (by simp at ha; simp [ha]))
      -- tests
      have cont : ∀ s6 acc6, CInv W L (I :: N) s0 s6 ρ1.comp → T.at_ acc6 s6.heap (vis s6.heap (I :: N)) → S (i + 1) s6.heap → Moves [I, L, B] s s6 → compA r ⟨cx.sc, some cs⟩ emit t ifs inner { ρ with comp := comp0 } l' acc6 = some res →
          codeAny W.md A (.compLoop e d (.ref I) (.ref B) (compEnvC cs cl L env)) (CompPost W L B I N s0 comp0 T res s) s6 := fun s6 acc6 ci6 at6 st6 mm6 ee6 =>
        codeAny_mono (comp_loop Ts ha D so hcl he hg It hIN hLN hBN hLB hN hMN fL fI hstep l' (i + 1) s6 acc6 res hr' hlt st6 (ci6.sub (bindT_sub hbind)) at6 ee6) fun rr s' ⟨h1, h2, h3, h4⟩ => ⟨h1, h2, h3, mm6.trans h4⟩
      refine wpAny_mono (tests_ok Ts ha ht D3) (fun ok s4 h4 => ?_) fun _ _ q => q
      obtain ⟨rfl, k4⟩ := h4
      have at4 := T.mono _ _ _ _ _ at3 (fun o ho => k4.get (by simp) ho) (gle_kept k4)
      have st4 : S (i + 1) s4.heap := It.keep _ _ _ st3 fun b o _ e => k4.get (by simp) e
      cases ok with
      | false =>
        obtain rfl := Option.some.inj hst
        exact cont s4 acc (ci3.next k4) at4 st4 (mm3.trans (.of_kept k4)) e3
      | true =>
        refine wpAny_mono (hstep ρ1 acc acc' s4 hst hρ1' (ci3.next k4) at4 E) (fun _ s5 h5 => ?_) fun _ _ q => q
        obtain ⟨ci5, at5, k5⟩ := h5
        exact cont s5 acc' ci5 at5 (It.keep _ _ _ st4 fun b o hb e => k5.get (by simp; constructor <;> rintro rfl <;> contradiction) e) ((mm3.trans (.of_kept k4)).trans (k5.mono fun a ha => .inl (List.mem_cons_of_mem _ ha))) e3
    · obtain ⟨v, rfl, h1⟩ := h1
      exact h1
end
end Mine

end

/-! part Comp5 -/
section
set_option maxRecDepth 10000
set_option autoImplicit false
set_option linter.unusedVariables false
namespace Mine
open PySem PySem.W PyProof.Rows

section
variable {W : Wd} {hb : Heap} {cx : CX} {cs : Scope} {cl : List (Str × Addr)} {env : Env} {M N : List Addr} {ρ : R} {A : Around} {E : Value → Shared → Prop} {s0 s s' : Shared} {r : Rec} {n : Nat} {L B I : Addr} {β : Type}

/-! what is emitted -/

noncomputable def EmitOk (W : Wd) (hb : Heap) (A : Around) (e : PySem.Expr) (cx : CX) (cs : Scope) (B : Addr) (T : AccT W B β) (emit : R → Option β) : Prop :=
  ∀ (cenv : Env) (N : List Addr) (ρ1 : R) (b : β) (acc : List β) (s : Shared) (E : Value → Shared → Prop), emit ρ1 = some b → acc.length < 4096 → Rd W hb ⟨cx.sc, some cs⟩ cenv N ρ1 s.heap → T.at_ acc s.heap (vis s.heap N) → B ∈ N →
    wpAny W.md A (emitOf e (.ref B) cenv) (fun _ s' => T.at_ (acc ++ [b]) s'.heap (vis s'.heap N) ∧ Moves [B] s s' ∧ ∃ o, s'.heap.get? B = some o) E s

theorem moves_but {B : Addr} {h : Heap} (tk : Nat) (hs : Heap.SameBut B s.heap h) : Moves [B] s { s with heap := h, toks := tk } := moves_heap fun b o hb e => hs.extBut b o (fun q => hb (by simp [q])) e

theorem emit_list (S : EvSound W hb n r) (ha : AOk A n) {elt : PySem.Expr} {gens : List Comprehension} {sc : Scope} {pos : Pos} :
    EmitOk W hb A (.ListComp elt gens sc pos) cx cs B (accL W B) (emitL r ⟨cx.sc, some cs⟩ elt) := by
  intro cenv N ρ1 b acc s E e hl D at0 hBN
  have hv := clean_inv e
  refine wpAny_bind (wpAny_mono (S _ _ _ _ hv cenv N A s E ha D) (fun u s1 h1 => ?_) fun _ _ q => q)
  obtain ⟨k1, r1⟩ := h1
  obtain ⟨m, vs, ho, rl⟩ := (accL W B).mono _ _ _ _ _ at0 (fun o ho => k1.get (by simp) ho) (gle_kept k1)
  have hlen := rl.length
  refine wpAny_bind (wpAny_list_append_plain ⟨m, ho⟩ (fun h' hp hs => wpAny_pure ?_) (by simp at hlen; exact line_le (by lia)))
  have k2 : Moves [B] s1 { s1 with heap := h' } := moves_but s1.toks hs
  have g := gle_moves k2 (M := N) (by simpa using hBN)
  obtain ⟨m', ho'⟩ := hp
  refine ⟨⟨m', vs.push u, ho', ?_⟩, (Moves.of_kept k1).trans k2, ⟨_, ho'⟩⟩
  rw [Array.toList_push]
  exact (rl.mono g).snoc (Rp.mono g r1)

theorem put_len {α : Type} : ∀ (l : List (Str × α)) (k : Str) (v : α), (put l k v).length ≤ l.length + 1
  | [], k, v => by simp [put]
  | (y, u) :: r, k, v => by
    simp only [put]
    split
    · simp
    · simp only [List.length_cons]
      have := put_len r k v
      lia
theorem foldl_put_len {α : Type} : ∀ (acc : List (Str × α)) (d : List (Str × α)), (acc.foldl (fun d p => put d p.1 p.2) d).length ≤ acc.length + d.length
  | [], d => by simp
  | p :: acc, d => by
    simp only [List.foldl_cons, List.length_cons]
    have h1 := foldl_put_len acc (put d p.1 p.2)
    have h2 := put_len d p.1 p.2
    lia

theorem emit_dict (S : EvSound W hb n r) (ha : AOk A n) {k v : PySem.Expr} {gens : List Comprehension} {sc : Scope} {pos : Pos} :
    EmitOk W hb A (.DictComp k v gens sc pos) cx cs B (accD W B) (emitD r ⟨cx.sc, some cs⟩ k v) := by
  intro cenv N ρ1 b acc s E e hl D at0 hBN
  refine bnd e fun kk hk e => bnd hk fun ka hk hkk => mpd e fun vv hv hx => ?_
  subst hx
  have hv := clean_inv hv
  refine wpAny_bind (wpAny_mono (S _ _ _ _ hk cenv N A s E ha D) (fun u1 s1 h1 => ?_) fun _ _ q => q)
  obtain ⟨k1, r1⟩ := h1
  have D1 := D.kept k1
  refine wpAny_bind (wpAny_holding (wpAny_mono (S _ _ _ _ hv cenv N A s1 E ha D1) (fun u2 s2 h2 => ?_) fun _ _ q => q))
  obtain ⟨k2, r2⟩ := h2
  have kk2 := k1.trans k2
  obtain ⟨kvs, hd, hsm, rl⟩ := (accD W B).mono _ _ _ _ _ at0 (fun o ho => kk2.get (by simp) ho) (gle_kept kk2)
  have hlen := rl.length
  have hlen2 := foldl_put_len acc ([] : List (Str × AV))
  have hnd : (kvs.map (·.1)).Nodup := by obtain ⟨_, _, _, _, _, _, _, _, q⟩ := hd; exact q
  obtain ⟨t, rfl⟩ := r1.str' hkk
  refine wpAny_bind (wpAny_standAt (wpAny_holding (wpAny_dictSet_pairs (knd := W.kd) (strKind_is _ _ kk t) hd (fun h' hd' hs => ?_) (by simp at hlen2; exact line_le (by lia)))))
  have k3 : Moves [B] s2 { s2 with heap := h', toks := s2.toks + 1 } := moves_but _ hs
  have g := gle_moves k3 (M := N) (by simpa using hBN)
  refine ⟨⟨_, hd', hsm, ?_⟩, (Moves.of_kept kk2).trans k3, ?_⟩
  · show RpD W _ _ ((acc ++ [(kk, vv)]).foldl (fun d p => put d p.1 p.2) [])
    rw [List.foldl_append]
    exact RpD.put (rl.mono g) hnd (Rp.mono g r2)
  · obtain ⟨o, _, _, ho, _⟩ := hd'
    exact ⟨o, ho⟩

/-- the last clause's step -/
theorem step_emit {T : AccT W B β} {emit : R → Option β} {e : PySem.Expr} {d : Nat} (Em : EmitOk W hb A e cx cs B T emit) (hlast : (clausesOf e)[d + 1]? = none)
    (D : Rd W hb ⟨cx.sc, none⟩ env M ρ s0.heap) (so : ScOk cx.sc cs) (hcl : ∀ x, (x, NameKind.free) ∈ cs.names → cl.lookup x = env.cells.lookup x)
    (hN : ∀ a ∈ N, a ∈ M ∨ s0.heap.get? a = none) (hMN : ∀ a ∈ M, a ∈ N) (hB : B ∈ N) (hBL : B ≠ L) (fB : s0.heap.get? B = none) :
    ∀ ρ1 acc acc' s, stepA emit none ρ1 acc = some acc' → ρ1 = { ρ with comp := ρ1.comp } → CInv W L N s0 s ρ1.comp → T.at_ acc s.heap (vis s.heap N) →
      ∀ E, wpAny W.md A (innerOf e d (.ref B) (compEnvC cs cl L env)) (fun _ s' => CInv W L N s0 s' ρ1.comp ∧ T.at_ acc' s'.heap (vis s'.heap N) ∧ Moves [L, B] s s') E s := by
  intro ρ1 acc acc' s e hρ ci at0 E
  refine ifs (e : stepA emit none ρ1 acc = some acc') fun hl e => mpd e fun b hem hx => ?_
  subst hx
  have Dc : Rd W hb ⟨cx.sc, some cs⟩ (compEnvC cs cl L env) N ρ1 s.heap := by
    rw [hρ]; exact ci.rd D so hcl hN hMN
  unfold innerOf
  rw [hlast]
  refine wpAny_mono (Em _ N ρ1 b acc s E hem hl Dc at0 hB) (fun _ s' h => ?_) fun _ _ q => q
  exact ⟨ci.moves h.2.1 (by simp; exact ⟨hB, hBL, fB⟩) (by simpa using h.2.2), h.1, h.2.1.mono fun a ha => .inl (List.mem_cons_of_mem _ ha)⟩

theorem srcA_inv {cx : CX} {ρ : R} {g : Comprehension} {l : List AV} (e : srcA r cx ρ g = some l) : g.is_async = 0 ∧ ∃ src, r.ev cx ρ g.iter = some ⟨src, false⟩ ∧ iterA g.target src = some l ∧ noItems src = true :=
  ifs e fun h e => bnd e fun src h1 e => bnd e fun l' h2 e => ifs e fun h3 e => Option.some.inj e ▸ ⟨h, src, clean_inv h1, h2, h3.2⟩
/-- a second clause -/
theorem step_inner (S : EvSound W hb n r) (Ts : TsSound W hb n r) (ha : AOk A n) {T : AccT W B β} {emit : R → Option β} {e t2 it2 : PySem.Expr} {ifs2 : List PySem.Expr} (he : isComp e = true) (Em : EmitOk W hb A e cx cs B T emit)
    (hg : (clausesOf e)[1]? = some ⟨t2, it2, ifs2, 0⟩) (hlast : (clausesOf e)[2]? = none) (hset : notSet it2 = true)
    (D : Rd W hb ⟨cx.sc, none⟩ env M ρ s0.heap) (so : ScOk cx.sc cs) (hcl : ∀ x, (x, NameKind.free) ∈ cs.names → cl.lookup x = env.cells.lookup x)
    (hN : ∀ a ∈ N, a ∈ M ∨ s0.heap.get? a = none) (hMN : ∀ a ∈ M, a ∈ N) (hL : L ∈ N) (hB : B ∈ N) (hBL : B ≠ L) (fL : s0.heap.get? L = none) (fB : s0.heap.get? B = none) :
    ∀ ρ1 acc acc' s, stepA (fun _ => none) (some fun ρ1 acc => (srcA r ⟨cx.sc, some cs⟩ ρ1 ⟨t2, it2, ifs2, 0⟩).bind fun l2 => compA r ⟨cx.sc, some cs⟩ emit t2 ifs2 none ρ1 l2 acc) ρ1 acc = some acc' → ρ1 = { ρ with comp := ρ1.comp } → CInv W L N s0 s ρ1.comp → T.at_ acc s.heap (vis s.heap N) →
      ∀ E, wpAny W.md A (innerOf e 0 (.ref B) (compEnvC cs cl L env)) (fun _ s' => CInv W L N s0 s' ρ1.comp ∧ T.at_ acc' s'.heap (vis s'.heap N) ∧ Moves [L, B] s s') E s := by
  intro ρ1 acc acc' s e0 hρ ci at0 E
  refine bnd (e0 : (srcA r ⟨cx.sc, some cs⟩ ρ1 ⟨t2, it2, ifs2, 0⟩).bind _ = some acc') fun l2 hs e0 => ?_
  obtain ⟨_, src2, hsrc, hl2, hit⟩ := srcA_inv hs
  have Dc : Rd W hb ⟨cx.sc, some cs⟩ (compEnvC cs cl L env) N ρ1 s.heap := by
    rw [hρ]; exact ci.rd D so hcl hN hMN
  unfold innerOf
  rw [hg]
  refine wpAny_bind (wpAny_mono (S _ _ _ _ hsrc _ N A s E ha Dc) (fun u s1 h1 => wpAny_bind (wpAny_standAt ?_)) fun _ _ q => q)
  obtain ⟨k1, r1⟩ := h1
  have hfs : foldedSetIterable it2 (compEnvC cs cl L env) u = pure u := by cases it2 <;> first | rfl | cases hset
  refine wpAny_bind (wpAny_of_eq hfs ?_)
  have Dc1 := Dc.kept k1
  refine wpAny_bind (wpAny_holding (wpAny_mono (iter_ok (tg := t2) Dc1.bd r1 hl2) (fun it s2 h2 => ?_) fun _ _ q => q))
  obtain ⟨I, S2, rfl, hI, hsz, hal, hIN, k2, Its, slf, st⟩ := h2
  simp only [List.nil_append] at hIN Its
  have k12 := k1.trans k2
  have fI1 : s1.heap.get? I = none := by rw [hI]; exact get_new _
  have fIs : s.heap.get? I = none := by
    cases q : s.heap.get? I with
    | none => rfl
    | some o => rw [k1.get (by simp) q] at fI1; cases fI1
  have fI0 : s0.heap.get? I = none := by
    cases q : s0.heap.get? I with
    | none => rfl
    | some o => rw [ci.kept.get (by simp) q] at fIs; cases fIs
  have hN2 : ∀ a ∈ I :: N, a ∈ M ∨ s0.heap.get? a = none := fun a ha => by
    rcases List.mem_cons.mp ha with rfl | q
    · exact .inr fI0
    · exact hN a q
  have ci2 : CInv W L (I :: N) s0 s2 ρ1.comp := by
    obtain ⟨m, hm, hv⟩ := ci.vars
    refine ⟨ci.kept.trans k12, fun a ha => ?_, m, hm.keeps k12.hle, fun x v q => ?_⟩
    · rcases List.mem_cons.mp ha with rfl | q
      · exact hal
      · obtain ⟨o, ho⟩ := ci.bd a q; exact ⟨o, k12.get (by simp) ho⟩
    · obtain ⟨u', h1, h2⟩ := hv x v q
      exact ⟨u', h1, h2.mono (gle_vis (fun b o _ e => k12.get (by simp) e) fun a ha => by
        rcases List.mem_cons.mp ha with rfl | q
        · exact .inr fIs
        · exact .inl q)⟩
  have at2 : T.at_ acc s2.heap (vis s2.heap (I :: N)) := T.mono _ _ _ _ _ at0 (fun o ho => k12.get (by simp) ho) (gle_vis (fun b o _ e => k12.get (by simp) e) fun a ha => by
        rcases List.mem_cons.mp ha with rfl | q
        · exact .inr fIs
        · exact .inl q)
  refine wpAny_bind (wpAny_runOwn (h := none) ?_)
  have hA : A.mark none = A := rfl
  rw [hA]
  have hrun : codeAny W.md A (.compLoop e 1 (.ref I) (.ref B) (compEnvC cs cl L env)) (CompPost W L B I N s0 ρ1.comp T acc' s2) s2 := by
    refine comp_loop (inner := none) (emit := emit) (ρ := ρ) Ts ha D so hcl he hg (Its A ha.handled) hIN hL hB hBL.symm hN2 hMN fL fI0 ?_ l2 0 s2 acc acc' rfl (Nat.zero_le _) st ci2 at2 (by rw [hρ] at e0; exact e0)
    exact step_emit Em hlast D so hcl hN2 (fun a ha => List.mem_cons_of_mem _ (hMN a ha)) (List.mem_cons_of_mem _ hB) hBL fB
  have hfin : codeAny W.md A (.compStart e 1 (.ref I) (.ref B) (compEnvC cs cl L env)) (CompPost W L B I N s0 ρ1.comp T acc' s2) s2 :=
    comp_start he hg hrun fun Q E q => slf hit A s2 Q E st q
  refine codeAny_mono hfin fun rr s' h => ?_
  obtain ⟨rfl, c', at', mv⟩ := h
  refine wpAny_pure ⟨c', T.mono _ _ _ _ _ at' (fun _ q => q) (gle_less fun a ha => List.mem_cons_of_mem _ ha), ?_⟩
  exact (Moves.of_kept (m := [L, B]) k12).next mv fun a ha => by
    rcases List.mem_cons.mp ha with rfl | q
    · exact .inr fIs
    · exact .inl q
end
end Mine

end

/-! part Comp6 -/
section
set_option maxRecDepth 10000
set_option autoImplicit false
set_option linter.unusedVariables false
namespace Mine
open PySem PySem.W PyProof.Rows

section
variable {W : Wd} {hb : Heap} {cx : CX} {cs : Scope} {env : Env} {M : List Addr} {ρ : R} {A : Around} {E : Value → Shared → Prop} {s s' : Shared} {r : Rec} {n : Nat} {β : Type}

theorem dead_back {s s' : Shared} (k : Kept s s') {a : Addr} (h : s'.heap.get? a = none) : s.heap.get? a = none := by
  cases q : s.heap.get? a with
  | none => rfl
  | some o => rw [k.get (by simp) q] at h; cases h

theorem compr_core (S : EvSound W hb n r) (Ts : TsSound W hb n r) (ha : AOk A n) {e t it : PySem.Expr} {ifs : List PySem.Expr} {gs : List Comprehension} (he : isComp e = true) (hcg : clausesOf e = ⟨t, it, ifs, 0⟩ :: gs)
    (so : ScOk cx.sc cs) (hset : notSet it = true) (T : ∀ B, AccT W B β) {newAcc : Sem Value} {o0 : Obj} (hnew : ∀ s (Q : Value → Shared → Prop) (E : Value → Shared → Prop), Q (.ref s.heap.objs.size) { s with heap := s.heap.push o0 } → wpAny W.md A newAcc Q E s)
    (hof : o0.isFreed = false) (h0 : ∀ (h : Heap) (g : G), sysModules < h.objs.size → (T h.objs.size).at_ [] (h.push o0) g)
    (D : Rd W hb ⟨cx.sc, none⟩ env M ρ s.heap) (hsys : 2 < hb.objs.size ∧ ∃ o, hb.get? 2 = some o) {src : AV} {l : List AV} {res : List β} {emit : R → Option β} {inner : Option (R → List β → Option (List β))}
    (e1 : r.ev ⟨cx.sc, none⟩ ρ it = some ⟨src, false⟩) (e2 : iterA t src = some l) (e3 : noItems src = true) (e4 : compA r ⟨cx.sc, some cs⟩ emit t ifs inner { ρ with comp := [] } l [] = some res)
    (hstep : ∀ (cl : List (Str × Addr)) (L B : Addr) (N : List Addr), (∀ x, (x, NameKind.free) ∈ cs.names → cl.lookup x = env.cells.lookup x) → (∀ a ∈ N, a ∈ M ∨ s.heap.get? a = none) → (∀ a ∈ M, a ∈ N) → L ∈ N → B ∈ N → B ≠ L → s.heap.get? L = none → s.heap.get? B = none →
      ∀ ρ1 acc acc' s1, stepA emit inner ρ1 acc = some acc' → ρ1 = { ρ with comp := ρ1.comp } → CInv W L N s s1 ρ1.comp → (T B).at_ acc s1.heap (vis s1.heap N) →
      ∀ E, wpAny W.md A (innerOf e 0 (.ref B) (compEnvC cs cl L env)) (fun _ s' => CInv W L N s s' ρ1.comp ∧ (T B).at_ acc' s'.heap (vis s'.heap N) ∧ Moves [L, B] s1 s') E s1)
    {use : Option (Value → Sem Unit)} {pos : Pos} {Q : Value → Shared → Prop}
    (hfin : ∀ B C s' m, s'.heap.Ns C m → s.heap.get? C = none → s.heap.get? B = none → B ≠ C → Kept s s' → (∃ o, s'.heap.get? B = some o) → (B == sysModules) = false → (T B).at_ res s'.heap (vis s'.heap (B :: C :: M)) → compPost W.md A E use Q (.ref B) C (.ok .next) s') :
    wpAny W.md A (comprehension e cs env pos newAcc false (eval it env) use) Q E s := by
  have hsc : env.scope = cx.sc := D.scp rfl
  obtain ⟨cl, hcl, hcll⟩ := closure_ok (cs := cs) (env := env) fun p hp hf => D.cells _ rfl (so.free p hp hf)
  refine wpAny_comprehension_free hcg (fun x => by cases it <;> first | rfl | cases hset) hcl so.kind (fun x hx h => so.loc x hx h) ?_
  refine wpAny_mono (S _ _ _ _ e1 env M A s E ha D) (fun u s1 h1 => ?_) fun _ _ q => q
  obtain ⟨k1, r1⟩ := h1
  have D1 := D.kept k1
  refine wpAny_mono (iter_okX (tg := t) D1.bd (X := [s1.heap.objs.size + 1, s1.heap.objs.size + 2]) (by
    intro a ha
    simp only [List.mem_cons, List.not_mem_nil, or_false] at ha
    rcases ha with rfl | rfl
    · exact Nat.lt_succ_self _
    · exact Nat.lt_succ_of_lt (Nat.lt_succ_self _)) r1 e2) (fun itv s2 h2 => ?_) fun _ _ q => q
  obtain ⟨I, St, rfl, hI, hsz, hal, hIN, k2, Its, slf, st⟩ := h2
  refine hnew s2 _ _ ?_
  have hB : s2.heap.objs.size = s1.heap.objs.size + 1 := hsz
  have k12 := k1.trans k2
  have hsz3 : (s2.heap.push o0).objs.size = s1.heap.objs.size + 2 := by rw [Heap.size_push, hB]
  refine wpAny_newFunctionEnv so.cell (by intro y hy; simp at hy) (fun h' hns hsb => ?_) so.kind
  dsimp only at hns hsb ⊢
  rw [hB]
  rw [hsz3] at hns hsb ⊢
  generalize hLd : s1.heap.objs.size + 2 = L at *
  generalize hBd : s1.heap.objs.size + 1 = B at *
  have hIB : I ≠ B := by rw [hI, ← hBd]; exact Nat.ne_of_lt (Nat.lt_succ_self _)
  have hIL : I ≠ L := by rw [hI, ← hLd]; exact Nat.ne_of_lt (Nat.lt_succ_of_lt (Nat.lt_succ_self _))
  have hBL : B ≠ L := by rw [← hBd, ← hLd]; exact Nat.ne_of_lt (Nat.lt_succ_self _)
  have dead1 : ∀ a, s1.heap.objs.size ≤ a → s.heap.get? a = none := fun a ha => dead_back k1 (fresh_none _ _ ha)
  have fI : s.heap.get? I = none := dead1 _ (by rw [hI]; exact Nat.le_refl _)
  have fB : s.heap.get? B = none := dead1 _ (by rw [← hBd]; exact Nat.le_succ _)
  have fL : s.heap.get? L = none := dead1 _ (by rw [← hLd]; exact Nat.le_add_right _ _)
  generalize hs3 : ({ heap := h', gens := s2.gens, drawn := s2.drawn, toks := s2.toks + ([] : List (Str × Value)).length, os := s2.os } : Shared) = s3
  have k23 : Kept s2 s3 := by
    rw [← hs3]
    refine ⟨h', _, rfl, fun b o _ e => ?_⟩
    have hlt := Heap.lt_size e
    exact hsb.extBut b o (by rw [← hLd]; rw [hB, ← hBd] at hlt; exact Nat.ne_of_lt (Nat.lt_succ_of_lt hlt)) (Heap.get?_push_of_some _ (Heap.get?_push_of_some _ e))
  have k13 := k12.trans k23
  have hh3 : s3.heap = h' := by rw [← hs3]
  have hBo : s3.heap.get? B = some o0 := by
    rw [hh3]
    refine hsb.extBut B o0 hBL (Heap.get?_push_of_some _ ?_)
    rw [← hB]
    exact Heap.get?_push_size _ hof
  have hLo : s3.heap.Ns L fun _ => none := by rw [hh3]; exact hns
  have hIo : ∃ o, s3.heap.get? I = some o := let ⟨o, ho⟩ := hal; ⟨o, k23.get (by simp) ho⟩
  have hN : ∀ a ∈ I :: ([B, L] ++ M), a ∈ M ∨ s.heap.get? a = none := fun a ha => by
    simp only [List.cons_append, List.nil_append, List.mem_cons] at ha
    rcases ha with rfl | rfl | rfl | q
    · exact .inr fI
    · exact .inr fB
    · exact .inr fL
    · exact .inl q
  have hMN : ∀ a ∈ M, a ∈ [B, L] ++ M := fun a ha => List.mem_append_right _ ha
  have hLN : L ∈ [B, L] ++ M := by simp
  have hBN : B ∈ [B, L] ++ M := by simp
  have ci : CInv W L (I :: ([B, L] ++ M)) s s3 [] := by
    refine ⟨k13, fun a ha => ?_, _, hLo, fun x v h => nomatch h⟩
    simp only [List.cons_append, List.nil_append, List.mem_cons] at ha
    rcases ha with rfl | rfl | rfl | q
    · exact hIo
    · exact ⟨_, hBo⟩
    · obtain ⟨o, _, _, ho, _⟩ := hLo; exact ⟨o, ho⟩
    · obtain ⟨o, ho⟩ := D.bd a q; exact ⟨o, k13.get (by simp) ho⟩
  have hsz2 : sysModules < s2.heap.objs.size := by
    obtain ⟨o, ho⟩ := hsys.2
    have := Heap.lt_size (k12.hle _ _ (D.base _ _ ho))
    exact Nat.lt_of_le_of_lt (by decide) this
  have at0 : (T B).at_ [] s3.heap (vis s3.heap (I :: ([B, L] ++ M))) := by
    have z := h0 s2.heap (vis s3.heap (I :: ([B, L] ++ M))) hsz2
    rw [hB] at z
    refine (T B).mono _ _ _ _ _ z (fun o ho => ?_) (GLe.refl _)
    rw [hh3]
    exact hsb.extBut B o hBL (Heap.get?_push_of_some _ ho)
  have st3 : St 0 s3.heap := (Its A ha.handled).keep _ _ _ st fun b o _ e => k23.get (by simp) e
  have hg : (clausesOf e)[0]? = some ⟨t, it, ifs, 0⟩ := by rw [hcg]; rfl
  have hrun : codeAny W.md A (.compLoop e 0 (.ref I) (.ref B) (compEnvC cs cl L env)) (CompPost W L B I ([B, L] ++ M) s [] (T B) res s3) s3 :=
    comp_loop (inner := inner) (emit := emit) (ρ := ρ) Ts ha D so hcll he hg (Its A ha.handled) hIN hLN hBN hBL.symm hN hMN fL fI
      (hstep cl L B _ hcll hN (fun a ha => List.mem_cons_of_mem _ (hMN a ha)) (List.mem_cons_of_mem _ hLN) (List.mem_cons_of_mem _ hBN) hBL fL fB) l 0 s3 [] res rfl (Nat.zero_le _) st3 ci at0 e4
  have hst := comp_start he hg hrun fun Q E q => slf e3 A s3 Q E st3 q
  refine codeAny_mono (show codeAny W.md A (.compStart e 0 (.ref I) (.ref B) (compEnvC cs cl L env)) _ s3 from hst) fun rr s' h => ?_
  obtain ⟨rfl, c', at', mv⟩ := h
  obtain ⟨m, hm, _⟩ := c'.vars
  have hbo' : ∃ o, s'.heap.get? B = some o := c'.bd B hBN
  refine hfin B L s' m hm fL fB hBL c'.kept hbo' ?_ ((T B).mono _ _ _ _ _ at' (fun _ q => q) (gle_less fun a ha => ?_))
  · show (decide (B = sysModules)) = false
    have : sysModules < s2.heap.objs.size := hsz2
    exact decide_eq_false (by rw [← hB]; exact Nat.ne_of_gt this)
  · simp only [List.mem_cons, List.cons_append, List.nil_append] at ha ⊢
    exact .inr ha

theorem compr_ok (S : EvSound W hb n r) (Ts : TsSound W hb n r) (ha : AOk A n) {e : PySem.Expr} (he : isComp e = true)
    (T : ∀ B, AccT W B β) {newAcc : Sem Value} {o0 : Obj} (hnew : ∀ s (Q : Value → Shared → Prop) (E : Value → Shared → Prop), Q (.ref s.heap.objs.size) { s with heap := s.heap.push o0 } → wpAny W.md A newAcc Q E s)
    (hof : o0.isFreed = false) (h0 : ∀ (h : Heap) (g : G), sysModules < h.objs.size → (T h.objs.size).at_ [] (h.push o0) g)
    (D : Rd W hb ⟨cx.sc, none⟩ env M ρ s.heap) (hsys : 2 < hb.objs.size ∧ ∃ o, hb.get? 2 = some o) {res : List β} {emit : R → Option β} (Em : ∀ B, EmitOk W hb A e cx cs B (T B) emit)
    (ec : comprA r ⟨cx.sc, none⟩ cs ρ emit (clausesOf e) = some res)
    {use : Option (Value → Sem Unit)} {pos : Pos} {Q : Value → Shared → Prop}
    (hfin : ∀ B C s' m, s'.heap.Ns C m → s.heap.get? C = none → s.heap.get? B = none → B ≠ C → Kept s s' → (∃ o, s'.heap.get? B = some o) → (B == sysModules) = false → (T B).at_ res s'.heap (vis s'.heap (B :: C :: M)) → compPost W.md A E use Q (.ref B) C (.ok .next) s') :
    wpAny W.md A (comprehension e cs env pos newAcc (firstAsync (clausesOf e)) (firstIter (clausesOf e) env) use) Q E s := by
  generalize hcg : clausesOf e = gens at *
  refine ifs ec fun hok e1 => elm e1 (fun _ e2 => bnd e2 fun q h1 e3 => bnd e3 fun l h2 e4 => ?_) fun g h1 e2 => bnd e2 fun l h2 e4 => ?_
  · clear ec e1 e2 e3
    obtain ⟨⟨t, it, ifs, a⟩, ⟨t2, it2, ifs2, a2⟩⟩ := q
    have hcg := hcg.trans (two_inv h1)
    rw [two_inv h1, Bool.and_eq_true] at hok
    rw [two_inv h1]
    obtain ⟨h3, src, e1, e2, e3⟩ := srcA_inv h2
    obtain rfl : a = 0 := h3
    have hset : notSet it = true ∧ notSet it2 = true := by simpa using hok.2
    have so := scopeOk_spec hok.1
    refine compr_core S Ts ha he hcg so hset.1 T hnew hof h0 D hsys e1 e2 e3 e4 ?_ hfin
    intro cl L B N hcl hN hMN hL hB hBL fL fB ρ1 acc acc' s1 es
    have h4 : a2 = 0 := bnd (o := srcA r ⟨cx.sc, some cs⟩ ρ1 ⟨t2, it2, ifs2, a2⟩) es fun l2 hs _ => (srcA_inv hs).1
    subst h4
    exact step_inner S Ts ha he (Em B) (by rw [hcg]; rfl) (by rw [hcg]; rfl) hset.2 D so hcl hN hMN hL hB hBL fL fB ρ1 acc acc' s1 es
  · clear ec e1 e2
    obtain ⟨t, it, ifs, a⟩ := g
    have hcg := hcg.trans (one_inv h1)
    rw [one_inv h1, Bool.and_eq_true] at hok
    rw [one_inv h1]
    obtain ⟨h3, src, e1, e2, e3⟩ := srcA_inv h2
    obtain rfl : a = 0 := h3
    refine compr_core S Ts ha he hcg (scopeOk_spec hok.1) (by simpa using hok.2) T hnew hof h0 D hsys e1 e2 e3 e4 ?_ hfin
    intro cl L B N hcl hN hMN hL hB hBL fL fB
    exact step_emit (Em B) (by rw [hcg]; rfl) D (scopeOk_spec hok.1) hcl hN hMN hB hBL fB
end
end Mine

end

/-! part Exp6 -/
section
set_option maxRecDepth 10000
set_option autoImplicit false
set_option linter.unusedVariables false
namespace Mine
open PySem PySem.W PyProof.Rows

section
variable {W : Wd} {hb : Heap} {cx : CX} {env : Env} {M : List Addr} {ρ : R} {A : Around} {E : Value → Shared → Prop} {s s' : Shared} {r : Rec} {n : Nat}

theorem Gl.sys (G : Gl W hb) : 2 < hb.objs.size ∧ ∃ o, hb.get? 2 = some o := by
  obtain ⟨mc, ⟨o, es, ep, ho, _⟩, _⟩ := G.nolim
  exact ⟨Heap.lt_size ho, o, ho⟩

theorem new_list {s : Shared} {Q : Value → Shared → Prop} {E : Value → Shared → Prop} (h : Q (.ref s.heap.objs.size) { s with heap := s.heap.push { cls := .type "list", data := .seq #[] } }) : wpAny W.md A (newList []) Q E s :=
  wpAny_newList h (Nat.zero_le _)
theorem new_dict {s : Shared} {Q : Value → Shared → Prop} {E : Value → Shared → Prop} (h : Q (.ref s.heap.objs.size) { s with heap := s.heap.push { cls := .type "dict", data := .dict #[] } }) : wpAny W.md A newDict Q E s := by
  simp only [newDict, newObj]
  exact wpAny_bind (wpAny_alloc (wpAny_pure h))

theorem accL_new (h : Heap) (g : G) (_ : sysModules < h.objs.size) : (accL W h.objs.size).at_ [] (h.push { cls := .type "list", data := .seq #[] }) g := ⟨0, #[], Heap.get?_push_size _ rfl, .nil⟩
theorem accD_new (h : Heap) (g : G) (hs : sysModules < h.objs.size) : (accD W h.objs.size).at_ [] (h.push { cls := .type "dict", data := .dict #[] }) g :=
  ⟨[], Heap.DictOf.new h, by show decide _ = false; exact decide_eq_false (Nat.ne_of_gt hs), .nil⟩

/-- a comprehension of a list, whatever is done with it -/
theorem list_comp (S : EvSound W hb n r) (Ts : TsSound W hb n r) (G : Gl W hb) (ha : AOk A n) {elt : PySem.Expr} {gens : List Comprehension} {cs : Scope} {pos pos' : Pos} (D : Rd W hb ⟨cx.sc, none⟩ env M ρ s.heap) {l : List AV}
    (ec : comprA r ⟨cx.sc, none⟩ cs ρ (emitL r ⟨cx.sc, some cs⟩ elt) gens = some l)
    {use : Option (Value → Sem Unit)} {Q : Value → Shared → Prop}
    (hfin : ∀ B C s' m, s'.heap.Ns C m → s.heap.get? C = none → s.heap.get? B = none → B ≠ C → Kept s s' → (∃ o, s'.heap.get? B = some o) → LstAt W s'.heap (vis s'.heap (B :: C :: M)) B l → compPost W.md A E use Q (.ref B) C (.ok .next) s') :
    wpAny W.md A (comprehension (.ListComp elt gens cs pos) cs env pos' (newList []) (firstAsync gens) (firstIter gens env) use) Q E s :=
  compr_ok (e := .ListComp elt gens cs pos) S Ts ha rfl (accL W) (fun s Q E h => new_list h) rfl (fun h g hs => accL_new h g hs) D G.sys (fun B => emit_list S ha) ec fun B C s' m h1 h2 h3 h4 h5 h6 h7 h8 => hfin B C s' m h1 h2 h3 h4 h5 h6 h8
theorem dict_comp (S : EvSound W hb n r) (Ts : TsSound W hb n r) (G : Gl W hb) (ha : AOk A n) {k v : PySem.Expr} {gens : List Comprehension} {cs : Scope} {pos pos' : Pos} (D : Rd W hb ⟨cx.sc, none⟩ env M ρ s.heap) {l : List (Str × AV)}
    (ec : comprA r ⟨cx.sc, none⟩ cs ρ (emitD r ⟨cx.sc, some cs⟩ k v) gens = some l)
    {use : Option (Value → Sem Unit)} {Q : Value → Shared → Prop}
    (hfin : ∀ B C s' m, s'.heap.Ns C m → s.heap.get? C = none → s.heap.get? B = none → B ≠ C → Kept s s' → (∃ o, s'.heap.get? B = some o) → DctAt W s'.heap (vis s'.heap (B :: C :: M)) B (l.foldl (fun d p => put d p.1 p.2) []) → compPost W.md A E use Q (.ref B) C (.ok .next) s') :
    wpAny W.md A (comprehension (.DictComp k v gens cs pos) cs env pos' newDict (firstAsync gens) (firstIter gens env) use) Q E s :=
  compr_ok (e := .DictComp k v gens cs pos) S Ts ha rfl (accD W) (fun s Q E h => new_dict h) rfl (fun h g hs => accD_new h g hs) D G.sys (fun B => emit_dict S ha) ec fun B C s' m h1 h2 h3 h4 h5 h6 h7 h8 => hfin B C s' m h1 h2 h3 h4 h5 h6 h8

/-- the comprehension's own variables let go -/
theorem comp_end {B C : Addr} {s' : Shared} {h' : Heap} (hb : Bd M s.heap) (fC : s.heap.get? C = none) (fB : s.heap.get? B = none) (hBC : B ≠ C) (k : Kept s s') (hs : Heap.SameBut C s'.heap h') :
    Kept s { s' with heap := h' } ∧ B ∉ M ∧ (∀ o, s'.heap.get? B = some o → h'.get? B = some o) ∧ GLe (vis s'.heap (B :: C :: M)) (vis h' M) := by
  refine ⟨k.next (moves_but s'.toks hs) fun a ha => .inr (by simp at ha; rw [ha]; exact fC), fun q => ?_, fun o ho => hs.extBut B o hBC ho, fun a o e => ?_⟩
  · obtain ⟨o, ho⟩ := hb B q
    rw [fB] at ho; cases ho
  · obtain ⟨h1, h2⟩ := vis_iff.mp e
    simp only [List.mem_cons, not_or] at h1
    exact vis_iff.mpr ⟨h1.2.2, hs.extBut a o h1.2.1 h2⟩

theorem ev_listcomp (S : EvSound W hb n r) (Ts : TsSound W hb n r) (G : Gl W hb) (ha : AOk A n) {elt : PySem.Expr} {gens : List Comprehension} {cs : Scope} {pos : Pos} (D : Rd W hb ⟨cx.sc, none⟩ env M ρ s.heap) {l : List AV}
    (ec : comprA r ⟨cx.sc, none⟩ cs ρ (emitL r ⟨cx.sc, some cs⟩ elt) gens = some l) :
    EvGives W A env M (.ListComp elt gens cs pos) ⟨.list l, false⟩ E s := by
  unfold EvGives
  rw [arm_eval_ListComp]
  refine list_comp S Ts G ha D ec fun B C s' m hn fC fB hBC k hBo hl => ⟨m, hn, fun h' hs => ?_⟩
  obtain ⟨k', hBM, hB', g⟩ := comp_end D.bd fC fB hBC k hs
  obtain ⟨c, vs, ho, rl⟩ := hl
  exact ⟨k', show Rp W (vis h' M) _ _ from .list (vis_iff.mpr ⟨hBM, hB' _ ho⟩) (rl.mono g)⟩

theorem ev_dictcomp (S : EvSound W hb n r) (Ts : TsSound W hb n r) (G : Gl W hb) (ha : AOk A n) {x v : PySem.Expr} {gens : List Comprehension} {cs : Scope} {pos : Pos} (D : Rd W hb ⟨cx.sc, none⟩ env M ρ s.heap) {l : List (Str × AV)}
    (ec : comprA r ⟨cx.sc, none⟩ cs ρ (emitD r ⟨cx.sc, some cs⟩ x v) gens = some l) :
    EvGives W A env M (.DictComp x v gens cs pos) ⟨.dict (l.foldl (fun d p => put d p.1 p.2) []), false⟩ E s := by
  unfold EvGives
  rw [arm_eval_DictComp]
  refine dict_comp S Ts G ha D ec fun B C s' m hn fC fB hBC k hBo hl => ⟨m, hn, fun h' hs => ?_⟩
  obtain ⟨k', hBM, hB', g⟩ := comp_end D.bd fC fB hBC k hs
  obtain ⟨kvs, hd, hsm, rl⟩ := hl
  obtain ⟨o, ho, hi⟩ := Heap.dictOf_iff.mp hd
  exact ⟨k', show Rp W (vis h' M) _ _ from .dict (vis_iff.mpr ⟨hBM, hB' _ ho⟩) hi hsm (rl.mono g)⟩

theorem sliceForm_some {i : PySem.Expr} {q : Option PySem.Expr × Option PySem.Expr} (e : sliceForm i = some q) : ∃ p, i = .Slice q.1 q.2 none p := by
  cases i with
  | Slice lo hi st p =>
    refine ifs (e : (if st.isNone = true then some (lo, hi) else none) = some q) fun h e => ?_
    obtain rfl := Option.some.inj e
    rw [Option.isNone_iff_eq_none.mp h]; exact ⟨p, rfl⟩
  | _ => exact none_ne e
theorem evSub_ok (S : EvSound W hb n r) (ha : AOk A n) (D : Rd W hb cx env M ρ s.heap) {x i : PySem.Expr} {pos : Pos} {ar : AR} (e : evSub r cx ρ x i = some ar) : EvGives W A env M (.Subscript x i pos) ar E s := by
  refine elm e (fun _ e => bnd e fun a h1 e => bnd e fun b h2 e => mpd e fun c hc hx => hx ▸ ev_sub S ha D h1 h2 hc) fun q hf e => bnd e fun a h1 e => bnd e fun l h2 e => bnd e fun h h3 e => mpd e fun c hc hx => ?_
  obtain ⟨p, rfl⟩ := sliceForm_some hf
  exact hx ▸ ev_slice S ha D h1 h2 h3 hc
theorem handOn_some {own : Bool} {v : AV} {ar : AR} (e : handOn own v = some ar) : ar = ⟨v, false⟩ ∧ (own = true → (∀ d, v ≠ .items d) ∧ ∀ d, v ≠ .values d) := by
  refine ifb e (fun _ e => none_ne e) fun h e => ?_
  obtain rfl := Option.some.inj e
  exact ⟨rfl, fun q => ⟨fun d hv => h (by rw [q, hv]; rfl), fun d hv => h (by rw [q, hv]; rfl)⟩⟩
theorem retClean_inv {o : Option (AV × Option AV)} {v : AV} (h : o.bind retClean = some v) : o = some (v, none) := bnd h fun p h1 h2 => ifs h2 fun h3 h4 => by
  obtain ⟨a, b⟩ := p
  obtain rfl := Option.some.inj h4
  obtain rfl : b = none := Option.isNone_iff_eq_none.mp h3
  exact h1
theorem evMeth_ok (G : Gl W hb) (S : EvSound W hb n r) (C : CallSound W hb G.fn n r) (ha : AOk A n) (D : Rd W hb cx env M ρ s.heap) {o : PySem.Expr} {name : Str} {apos pos : Pos} {args : List PySem.Expr} {ar : AR} (e : evMeth r cx ρ o name apos args pos = some ar) :
    EvGives W A env M (.Call (.Attribute o name apos) args [] pos) ar E s := by
  refine ifs e fun hok e => bnd e fun a h1 e => bnd e fun vs h2 e => elm e (fun _ e => bnd e fun v h3 e => ?_) fun l h3 e => ifs e fun hnm e => mpd e fun v h4 h5 => ?_
  · obtain ⟨rfl, ho⟩ := handOn_some e
    exact ev_meth S ha D hok.1 hok.2.1 hok.2.2 h1 h2 h3 ho
  · subst hnm
    refine bnd h3 fun w h6 h7 => h5 ▸ ev_compare S G C ha D hok.1 hok.2.1 hok.2.2 (clean_inv (bndI h1 (h6.trans (congrArg some (asInst_inv h7))))) h2 (retClean_inv h4)
theorem evIsi_ok (G : Gl W hb) (S : EvSound W hb n r) (ha : AOk A n) (D : Rd W hb cx env M ρ s.heap) {fp pos : Pos} {args : List PySem.Expr} {ar : AR} (hk : kind cx (sN "isinstance") = some .glob) (e : evIsi r cx ρ args = some ar) :
    EvGives W A env M (.Call (.Name (sN "isinstance") fp) args [] pos) ar E s := by
  refine bnd e fun q h1 e => bnd e fun t hf e => ifs e fun hs e => mpd e fun i h2 hx => bnd h2 fun a h3 h4 => ?_
  obtain ⟨x, t'⟩ := q
  obtain ⟨tp, rfl⟩ := nameOf_some hf
  obtain ⟨h5, h6, rfl⟩ := hs
  rw [two_inv h1]
  exact hx ▸ ev_isinst S G ha D h5 hk (isK_inv h6) h3 h4
theorem evFn_ok (G : Gl W hb) (S : EvSound W hb n r) (C : CallSound W hb G.fn n r) (ha' : AOk A (n + 1)) (D : Rd W hb cx env M ρ s.heap) {f : Str} {fp pos : Pos} {args : List PySem.Expr} {ar : AR} (e : evFn r theDefs cx ρ f args = some ar) :
    EvGives W A env M (.Call (.Name f fp) args [] pos) ar E s := by
  have ha := ha'.down
  refine ifs e fun hk e => ifb e (fun hf e => ?_) fun _ e => ifb e (fun hf e => mpd e fun v h1 hx => bnd h1 fun vs h1 h2 => ?_) fun _ e => ifb e (fun hd e => bnd e fun vs h1 e => mpd e fun v h2 hx => ?_) fun _ e => bnd e fun vs h1 e => mpd e fun c hc hx => ?_
  · subst hf
    exact evIsi_ok G S ha D (isK_inv hk) e
  · subst hf
    exact hx ▸ ev_make S G ha' D (isK_inv hk) (h1.trans (congrArg some (one_inv h2)))
  · exact hx ▸ ev_def S G C ha D (isK_inv hk) hd h1 (retClean_inv h2)
  · exact hx ▸ ev_builtin S G ha D (isK_inv hk) h1 hc
theorem evCall_ok (G : Gl W hb) (S : EvSound W hb n r) (C : CallSound W hb G.fn n r) (ha' : AOk A (n + 1)) (D : Rd W hb cx env M ρ s.heap) {f : PySem.Expr} {pos : Pos} {args : List PySem.Expr} {ar : AR} (e : evCall r theDefs cx ρ f args pos = some ar) :
    EvGives W A env M (.Call f args [] pos) ar E s := by
  cases f with
  | Attribute o name apos => exact evMeth_ok G S C ha'.down D e
  | Name f p => exact evFn_ok G S C ha' D e
  | _ => exact none_ne e
theorem isUSub_inv {op : UnaryOp} (h : isUSub op = true) : op = .USub := by cases op <;> first | rfl | cases h

theorem evA_ok (G : Gl W hb) (S : EvSound W hb n r) (Ts : TsSound W hb n r) (C : CallSound W hb G.fn n r) : EvSound W hb (n + 1) ⟨evA r theDefs, r.ts, r.ex, r.call⟩ := by
  intro cx ρ x ar e env M A s E ha' D
  have ha := ha'.down
  cases x with
  | Constant c k p => exact ev_const e
  | Name x p => exact ev_name G e D
  | BinOp l op x p => exact bnd (e : evA r theDefs cx ρ (.BinOp l op x p) = some ar) fun a h1 e => bnd e fun b h2 e => mpd e fun c hc hx => hx ▸ ev_binop S ha D h1 h2 hc
  | UnaryOp op x p => exact ifs (e : evA r theDefs cx ρ (.UnaryOp op x p) = some ar) fun h e => mpd e fun i h1 hx => bnd h1 fun a h1 h2 => hx ▸ isUSub_inv h ▸ ev_neg S ha D h1 h2
  | IfExp t a b p => exact bnd (e : evA r theDefs cx ρ (.IfExp t a b p) = some ar) fun c h1 e => ev_ifexp S Ts ha D h1 e
  | Tuple es k p => exact bnd (e : evA r theDefs cx ρ (.Tuple es k p) = some ar) fun l h1 e => ifs e fun hl e => Option.some.inj e ▸ ev_tuple S ha D h1 hl
  | List es p => exact bnd (e : evA r theDefs cx ρ (.List es p) = some ar) fun l h1 e => ifs e fun hl e => Option.some.inj e ▸ ev_list S ha D h1 hl
  | Dict ks vs p =>
    refine ifs (e : evA r theDefs cx ρ (.Dict ks vs p) = some ar) fun h e => ?_
    rw [isEmpty_inv h.1, isEmpty_inv h.2]
    have hsys : sysModules < s.heap.objs.size := by
      obtain ⟨o, ho⟩ := G.sys.2
      exact Nat.lt_of_le_of_lt (by decide) (Heap.lt_size (D.base _ _ ho))
    exact Option.some.inj e ▸ ev_dict0 D hsys
  | ListComp x gens cs p =>
    refine ifs (e : evA r theDefs cx ρ (.ListComp x gens cs p) = some ar) fun h e => mpd e fun l hl hx => ?_
    obtain ⟨sc, cso⟩ := cx
    obtain rfl : cso = none := Option.isNone_iff_eq_none.mp h
    exact hx ▸ ev_listcomp (cx := ⟨sc, none⟩) S Ts G ha D hl
  | DictComp k x gens cs p =>
    refine ifs (e : evA r theDefs cx ρ (.DictComp k x gens cs p) = some ar) fun h e => mpd e fun l hl hx => ?_
    obtain ⟨sc, cso⟩ := cx
    obtain rfl : cso = none := Option.isNone_iff_eq_none.mp h
    exact hx ▸ ev_dictcomp (cx := ⟨sc, none⟩) S Ts G ha D hl
  | Subscript x i p => exact evSub_ok S ha D e
  | Attribute x name p =>
    refine bnd (e : evA r theDefs cx ρ (.Attribute x name p) = some ar) fun l h1 e => bnd h1 fun w h1 h2 => ifs e fun hn e2 => ?_
    obtain rfl := Option.some.inj e2
    obtain ⟨rfl, hbo⟩ := hn
    exact ev_attr S G ha D hbo ((clean_inv h1).trans (congrArg (fun w => some (AR.mk w false)) (asInst_inv h2)))
  | Call f args kws p =>
    refine ifs (e : evA r theDefs cx ρ (.Call f args kws p) = some ar) fun h e => ?_
    rw [isEmpty_inv h]
    exact evCall_ok G S C ha' D e
  | _ => exact none_ne e
end
end Mine

end

/-! part Ops6 -/
section
set_option maxRecDepth 10000
set_option autoImplicit false
set_option linter.unusedVariables false
namespace Mine
open PySem PySem.W PyProof.Rows

section
variable {W : Wd} {A : Around} {E : Value → Shared → Prop} {s : Shared}

theorem setItem_plain {l : Addr} {items : Array Value} {n : Nat} {k : Int} {t : Tok} {v : Value} {Q : Unit → Shared → Prop} (ho : s.heap.get? l = some { cls := .type "list", data := .seq items n })
    (h0 : 0 ≤ k) (hfit : k < 2 ^ 63) (hn : k < items.size)
    (hQ : ∀ h' n', h'.get? l = some { cls := .type "list", data := .seq (items.setIfInBounds k.toNat v) n' } → Heap.SameBut l s.heap h' → Q () { s with heap := h' }) :
    wpAny W.md A (setItem (.ref l) (.int k t) v) Q E s := by
  have hT : s.TypeIs (.ref l) "list" := ⟨_, ho, rfl⟩
  unfold setItem
  try with_reducible refine wpAny_holding ?_
  first | refine wpAny_bind (wpAny_pure ?_) | skip
  refine wpAny_bind (wpAny_sequenceKey hT (by decide) ?_)
  refine wpAny_bind (wpAny_callSpecial?_slot (name := Str.ofString "__setitem__") hT slot_list_setitem
    (wpAny_call_entry slot_list_setitem hT entry_list_setitem ?_ (args_list_setitem _ _ _)))
  show wpAny _ _ (Builtin.List.listSubscript? (.int k t) >>= _) _ _ s
  refine wpAny_bind (wpAny_listSubscript_int (fitsIndex_of h0 hfit) ?_)
  clear hfit
  obtain ⟨j, rfl⟩ := Int.eq_ofNat_of_zero_le h0
  have hj : j < items.size := by omega
  have hx' : items[j]? = some items[j] := Array.getElem?_eq_getElem hj
  show wpAny _ _ ((seqItemAt l j >>= fun r => pure (r.map (j, ·))) >>= _) _ _ s
  refine wpAny_bind (wpAny_bind (wpAny_seqItemAt ho rfl (wpAny_pure ?_)))
  rw [hx']
  show wpAny _ _ (setSeqItemAt l j v >>= _) _ _ s
  refine wpAny_bind (wpAny_setSeqItemAt ho rfl ?_)
  have hfin : ∃ n', (s.heap.update l (Obj.mapSeq (·.setIfInBounds j v))).get? l = some { cls := .type "list", data := .seq (items.setIfInBounds j v) n' } := by
    exact ⟨if (items.setIfInBounds j v).size == items.size then n else n + 1, Heap.get?_update_self _ ho (by rfl)⟩
  obtain ⟨n', hn'⟩ := hfin
  first
    | exact wpAny_bind (wpAny_pure (wpAny_pure ⟨.none, rfl, wpAny_pure (hQ _ _ hn' (Heap.SameBut.update ..))⟩))
    | exact wpAny_pure ⟨.none, rfl, wpAny_pure (hQ _ _ hn' (Heap.SameBut.update ..))⟩

theorem pop_meets (l : Addr) (items : Array Value) (n : Nat) (x : Value) (hx : items.back? = some x) (hs1 : items.size ≤ sizeLine) :
    Meets (Builtin.«list.pop» ⟨[.ref l], []⟩) (fun _ R s => s.heap.get? l = some { cls := .type "list", dict := none, data := .seq items n, slots := #[] } ∧
      R (.ok (.ret x)) { s with heap := s.heap.update l (Obj.mapSeq fun xs => xs.eraseIdxIfInBounds (items.size - 1)), toks := s.toks }) :=
  .of_wp fun prog w A R s h => by
    obtain ⟨hp, g, d, tk, os⟩ := s; obtain ⟨hl, h⟩ := h
    have h0 : 0 < items.size := by
      cases h : items.size with
      | zero => simp [Array.back?, h] at hx
      | succ k => omega
    have hi : seqIndex? (-1) items.size = some (items.size - 1) := by
      unfold seqIndex?
      simp only [show (-1 : Int) < 0 by decide, if_true]
      have h1 : (0 : Int) ≤ -1 + (items.size : Int) := by omega
      have h2 : (-1 + (items.size : Int)) < (items.size : Int) := by omega
      simp only [h1, h2, decide_true, Bool.and_self, if_true]
      congr 1
      omega
    have hg : items[items.size - 1]? = some x := by simpa [Array.back?] using hx
    have hne : ¬ items.isEmpty = true := fun q => by have := Array.isEmpty_iff.mp q; subst this; simp at h0
    have hii : ((seqIndex? (-1) items.size).bind fun k => items[k]?.map (k, ·)) = some (items.size - 1, x) := by rw [hi]; simp [hg]
    have hz' : (items.eraseIdxIfInBounds (items.size - 1)).size ≤ sizeLine + 1 := Nat.le_trans (size_eraseIdxIfInBounds_le _ _) (Nat.le_succ_of_le hs1)
    wp_walk using (wpAny_updateSeq hl rfl (hz := hs1) (_hz' := hz')), AutoSeq1.wpAny_loadPart' hl
    rw [hii]
    dsimp only
    wp_walk using (wpAny_updateSeq hl rfl (hz := hs1) (_hz' := hz')), AutoSeq1.wpAny_loadPart' hl
    exact ⟨_, rfl, h⟩

theorem erase_last (items : Array Value) : (items.eraseIdxIfInBounds (items.size - 1)).toList = items.toList.dropLast := by
  unfold Array.eraseIdxIfInBounds
  split
  · rename_i h
    rw [Array.toList_eraseIdx, List.eraseIdx_eq_take_drop_succ, List.dropLast_eq_take]
    simp
    omega
  · rename_i h
    have : items.size = 0 := by omega
    have : items = #[] := Array.eq_empty_of_size_eq_zero this
    subst this; rfl

theorem pop_plain {l : Addr} {items : Array Value} {n : Nat} {x : Value} {Q : Value → Shared → Prop} (ho : s.heap.get? l = some { cls := .type "list", data := .seq items n }) (hx : items.back? = some x) (hsz : items.size ≤ sizeLine)
    (hQ : ∀ h' n' vs, h'.get? l = some { cls := .type "list", data := .seq vs n' } → vs.toList = items.toList.dropLast → Heap.SameBut l s.heap h' → Q x { s with heap := h' }) :
    wpAny W.md A (call (.builtin "list.pop") [.ref l]) Q E s := by
  have hT : s.TypeIs (.ref l) "list" := ⟨_, ho, rfl⟩
  refine call_meets PySem.F.slot_list_pop hT PySem.F.entry_list_pop (PySem.F.args_list_pop_1 _) (pop_meets l items n x hx hsz) ⟨ho, ?_⟩
  exact hQ _ (if (items.eraseIdxIfInBounds (items.size - 1)).size == items.size then n else n + 1) _ (Heap.get?_update_self _ ho (by rfl)) (erase_last items) (Heap.SameBut.update ..)
end
end Mine

end

/-! part Stm1 -/
section
set_option maxRecDepth 10000
set_option autoImplicit false
set_option linter.unusedVariables false
namespace Mine
open PySem PySem.W PyProof.Rows

/-! the state of a frame -/

noncomputable def FM (env : Env) : List Addr := env.locals :: env.cells.map (·.2)
noncomputable def mm (om : List (Str × Addr)) (env : Env) (Mo : List Addr) : List Addr := om.map (·.2) ++ (FM env ++ Mo)
noncomputable def mv (om : List (Str × Addr)) (env : Env) (ioL : List Addr) : List Addr := om.map (·.2) ++ (FM env ++ ioL)

structure FrOk (env : Env) (sc : Scope) : Prop where
  scp : env.scope = sc
  knd : sc.kind = .function
  glo : env.globals = mainGlobals
  blt : env.builtins = builtinsNs
  cel : ∀ x, sc.names.lookup x = some .cell → ∃ c, env.cells.lookup x = some c

noncomputable def VarOk (W : Wd) (om : List (Str × Addr)) (ioL : List Addr) (h : Heap) (M : List Addr) (x : Str) (v : Var) (u : Value) : Prop :=
  match v with
  | .frz v => Rp W (vis h M) u v
  | .own v => ∃ a, u = .ref a ∧ om.lookup x = some a ∧ OwnAt W h (vis h M) a v
  | .io v => ∃ a, u = .ref a ∧ a ∈ ioL ∧ OwnAt W h (vis h M) a v

noncomputable abbrev VF := Str → Option Var
noncomputable def upd (V : VF) (x : Str) (v : Var) : VF := fun y => if y = x then some v else V y
noncomputable def dropV (V : VF) (x : Str) : VF := fun y => if y = x then none else V y
noncomputable def Vof (ρ : R) : VF := fun x => ρ.vars.lookup x

structure St (W : Wd) (hb : Heap) (env : Env) (sc : Scope) (Mo ioL : List Addr) (s0 : Shared) (om : List (Str × Addr)) (V : VF) (s : Shared) : Prop where
  base : HLe hb s0.heap
  ioB : ∀ a ∈ ioL, hb.get? a = none ∧ a ∈ Mo
  moves : Moves ioL s0 s
  bd : Bd (mm om env Mo) s.heap
  fresh : ∀ a ∈ om.map (·.2) ++ FM env, s0.heap.get? a = none
  nod : (om.map (·.2) ++ FM env).Nodup
  apart : ∀ a ∈ om.map (·.2) ++ FM env, a ∉ Mo
  ns : ∃ m, s.heap.Ns env.locals m
  cells : ∀ x c, env.cells.lookup x = some c → ∃ v, s.heap.IsCell c v
  io1 : ∀ x y v w, V x = some (.io v) → V y = some (.io w) → x = y
  vars : ∀ x v, kind ⟨sc, none⟩ x = some .var → V x = some v → NameAt env s.heap x (VarOk W om ioL s.heap (mm om env Mo) x v)

structure Step (env : Env) (ioL : List Addr) (om : List (Str × Addr)) (s : Shared) (om' : List (Str × Addr)) (s' : Shared) : Prop where
  run : Moves (mv om env ioL) s s'
  new : ∀ a ∈ om'.map (·.2), a ∈ mv om env ioL ∨ s.heap.get? a = none

theorem dead_moves {m : List Addr} {s s' : Shared} (k : Moves m s s') {a : Addr} (h : s'.heap.get? a = none) : a ∈ m ∨ s.heap.get? a = none := by
  by_cases e : a ∈ m
  · exact .inl e
  · right
    cases q : s.heap.get? a with
    | none => rfl
    | some o => rw [k.get e q] at h; (first | exact none_ne h | obtain rfl := Option.some.inj h | cases h)

section
variable {W : Wd} {hb : Heap} {env : Env} {sc : Scope} {Mo ioL : List Addr} {s0 s s' s'' : Shared} {om om' om'' : List (Str × Addr)} {V V' : VF} {A : Around} {E : Value → Shared → Prop} {M m : List Addr} {ρ : R}

theorem Step.refl : Step env ioL om s om s := ⟨Moves.refl _ _, fun a h => .inl (List.mem_append_left _ h)⟩
theorem mem_mv {a : Addr} (k : Step env ioL om s om' s') (h : a ∈ mv om' env ioL) : a ∈ mv om env ioL ∨ s.heap.get? a = none := by
  rcases List.mem_append.mp h with h | h
  · exact k.new a h
  · exact .inl (List.mem_append_right _ h)
theorem Step.trans (x : Step env ioL om s om' s') (y : Step env ioL om' s' om'' s'') : Step env ioL om s om'' s'' := by
  refine ⟨x.run.next y.run fun a h => mem_mv x h, fun a h => ?_⟩
  rcases y.new a h with h | h
  · exact mem_mv x h
  · rcases dead_moves x.run h with h | h
    · exact .inl h
    · exact .inr h
theorem Step.kept (k : Kept s s') : Step env ioL om s om s' := ⟨.of_kept k, fun a h => .inl (List.mem_append_left _ h)⟩
theorem Step.less (h : ∀ a ∈ om'.map (·.2), a ∈ om.map (·.2)) (k : Moves (mv om env ioL) s s') : Step env ioL om s om' s' := ⟨k, fun a q => .inl (List.mem_append_left _ (h a q))⟩

theorem VarOk.moves {x : Str} {v : Var} {u : Value} (hm : ∀ a ∈ m, a ∈ M) (ho : ∀ a, om.lookup x = some a → a ∉ m) (hio : ∀ a ∈ ioL, a ∉ m) (k : Moves m s s') (h : VarOk W om ioL s.heap M x v u) : VarOk W om ioL s'.heap M x v u := by
  cases v with
  | frz v => exact Rp.mono (gle_moves k hm) h
  | own v => obtain ⟨a, e, hl, o⟩ := h; exact ⟨a, e, hl, o.mono (fun _ q => k.get (ho a hl) q) (gle_moves k hm)⟩
  | io v => obtain ⟨a, e, hl, o⟩ := h; exact ⟨a, e, hl, o.mono (fun _ q => k.get (hio a hl) q) (gle_moves k hm)⟩

theorem VarOk.vis {M' : List Addr} {x : Str} {v : Var} {u : Value} (g : GLe (vis s.heap M) (vis s.heap M')) (h : VarOk W om ioL s.heap M x v u) : VarOk W om ioL s.heap M' x v u := by
  cases v with
  | frz v => exact Rp.mono g h
  | own v => obtain ⟨a, e, hl, o⟩ := h; exact ⟨a, e, hl, o.mono (fun _ q => q) g⟩
  | io v => obtain ⟨a, e, hl, o⟩ := h; exact ⟨a, e, hl, o.mono (fun _ q => q) g⟩

theorem mem_om {x : Str} {a : Addr} (h : om.lookup x = some a) : a ∈ om.map (·.2) := List.mem_map.mpr ⟨(x, a), mem_of_lookup h, rfl⟩

theorem St.hle (T : St W hb env sc Mo ioL s0 om V s) : HLe hb s.heap := fun b o e => T.moves.get (fun q => by rw [(T.ioB b q).1] at e; cases e) (T.base b o e)

theorem St.rd (T : St W hb env sc Mo ioL s0 om (Vof ρ) s) (F : FrOk env sc) : Rd W hb ⟨sc, none⟩ env (mm om env Mo) ρ s.heap where
  base := T.hle
  knd := by rw [F.scp]; exact F.knd
  glo := F.glo
  blt := F.blt
  bd := T.bd
  scp := fun _ => F.scp
  cells := fun x _ h => Option.isSome_iff_exists.mpr (F.cel x h)
  gl := fun x h => by
    have : sc.names.lookup x = some .globalImplicit := by
      rcases kind_out h with ⟨q, _⟩ | ⟨_, h⟩
      · cases q
      · exact h
    show env.scope.names.lookup x = _
    rw [F.scp]; exact this
  var := fun x v h1 h2 => by
    obtain ⟨u, hu, r⟩ := T.vars x v h1 h2
    refine ⟨u, ?_, r⟩
    cases v with
    | frz v => exact hu
    | own v => obtain ⟨a, e, hl, o⟩ := hu; exact ⟨a, e, List.mem_append_left _ (mem_om hl), o⟩
    | io v => obtain ⟨a, e, hl, o⟩ := hu; exact ⟨a, e, List.mem_append_right _ (List.mem_append_right _ (T.ioB a hl).2), o⟩
  cmp := fun x v h1 h2 => by
    rcases kind_out h1 with ⟨q, _⟩ | ⟨q, _⟩ <;> cases q

theorem St.kept (T : St W hb env sc Mo ioL s0 om V s) (k : Kept s s') : St W hb env sc Mo ioL s0 om V s' where
  base := T.base
  ioB := T.ioB
  moves := T.moves.trans (.of_kept k)
  bd := T.bd.kept k
  fresh := T.fresh
  nod := T.nod
  apart := T.apart
  ns := let ⟨m, h⟩ := T.ns; ⟨m, h.keeps k.hle⟩
  cells := fun x c h => let ⟨v, q⟩ := T.cells x c h; ⟨v, q.keeps k.hle⟩
  io1 := T.io1
  vars := fun x v h1 h2 => (T.vars x v h1 h2).kept k.hle fun u h => VarOk.moves (by simp) (by simp) (by simp) k h

theorem St.weak (T : St W hb env sc Mo ioL s0 om V s) (h : ∀ x v, V' x = some v → V x = some v) : St W hb env sc Mo ioL s0 om V' s :=
  { T with io1 := fun x y v w h1 h2 => T.io1 x y v w (h _ _ h1) (h _ _ h2), vars := fun x v h1 h2 => T.vars x v h1 (h x v h2) }

theorem dropV_le {x : Str} : ∀ y v, dropV V x y = some v → V y = some v := fun y v h => by
  unfold dropV at h
  split at h
  · (first | exact none_ne h | obtain rfl := Option.some.inj h | cases h)
  · exact h

noncomputable def rmo (om : List (Str × Addr)) (x : Str) : List (Str × Addr) := om.filter fun p => !(p.1 == x)
theorem rmo_sub {x : Str} : ∀ a ∈ (rmo om x).map (·.2), a ∈ om.map (·.2) := fun a h => by
  obtain ⟨p, hp, rfl⟩ := List.mem_map.mp h
  exact List.mem_map.mpr ⟨p, (List.mem_filter.mp hp).1, rfl⟩
theorem rmo_lookup {x y : Str} (h : y ≠ x) : ∀ {om : List (Str × Addr)}, (rmo om x).lookup y = om.lookup y
  | [] => rfl
  | (k, a) :: r => by
    unfold rmo
    rw [List.filter_cons]
    have ih := rmo_lookup h (om := r)
    unfold rmo at ih
    by_cases hk : k = x
    · subst hk
      have : (!(k == k)) = false := by simp
      rw [if_neg (by simp)]
      rw [ih, List.lookup_cons]
      have : (y == k) = false := by simpa using h
      rw [this]
    · rw [if_pos (by simpa using hk), List.lookup_cons, List.lookup_cons, ih]
theorem rmo_nod {x : Str} (h : (om.map (·.2) ++ FM env).Nodup) : ((rmo om x).map (·.2) ++ FM env).Nodup := by
  refine h.sublist (List.Sublist.append ?_ (List.Sublist.refl _))
  exact (List.filter_sublist).map _

theorem mm_rmo {x : Str} : ∀ a ∈ mm (rmo om x) env Mo, a ∈ mm om env Mo := fun a h => by
  rcases List.mem_append.mp h with h | h
  · exact List.mem_append_left _ (rmo_sub a h)
  · exact List.mem_append_right _ h

/-- a name that is no own container's -/
theorem St.rm (T : St W hb env sc Mo ioL s0 om V s) {x : Str} (hx : ∀ v, V x ≠ some (.own v)) : St W hb env sc Mo ioL s0 (rmo om x) V s where
  base := T.base
  ioB := T.ioB
  moves := T.moves
  bd := fun a h => T.bd a (mm_rmo a h)
  fresh := fun a h => T.fresh a (by
    rcases List.mem_append.mp h with h | h
    · exact List.mem_append_left _ (rmo_sub a h)
    · exact List.mem_append_right _ h)
  nod := rmo_nod T.nod
  apart := fun a h => T.apart a (by
    rcases List.mem_append.mp h with h | h
    · exact List.mem_append_left _ (rmo_sub a h)
    · exact List.mem_append_right _ h)
  ns := T.ns
  cells := T.cells
  io1 := T.io1
  vars := fun y v h1 h2 => by
    obtain ⟨u, hu, r⟩ := T.vars y v h1 h2
    refine ⟨u, ?_, r⟩
    have := VarOk.vis (gle_less (mm_rmo (x := x) (om := om) (env := env) (Mo := Mo))) hu
    cases v with
    | frz v => exact this
    | own v =>
      obtain ⟨a, e, hl, o⟩ := this
      have hne : y ≠ x := fun q => hx v (q ▸ h2)
      exact ⟨a, e, by rw [rmo_lookup hne]; exact hl, o⟩
    | io v => exact this

theorem name_of_snd : ∀ {om : List (Str × Addr)}, (om.map (·.2)).Nodup → ∀ {n n' : Str} {c : Addr}, (n, c) ∈ om → (n', c) ∈ om → n = n'
  | x :: r, hp, n, n', c, h, h' => by
    obtain ⟨h1, h2⟩ := List.nodup_cons.mp hp
    rcases List.mem_cons.mp h with e | h <;> rcases List.mem_cons.mp h' with e' | h'
    · rw [← e'] at e; exact (Prod.mk.inj e).1
    · exact absurd (List.mem_map.mpr ⟨(n', c), h', by rw [← e]⟩) h1
    · exact absurd (List.mem_map.mpr ⟨(n, c), h, by rw [← e']⟩) h1
    · exact name_of_snd h2 h h'

theorem OwnAt.rp {h : Heap} {a : Addr} {v : AV} {M' : List Addr} (o : OwnAt W h (vis h M) a v) (g : GLe (vis h M) (vis h M')) (ha : a ∉ M') : Rp W (vis h M') (.ref a) v := by
  cases v with
  | list l => obtain ⟨n, vs, e, r⟩ := o; exact .list (vis_iff.mpr ⟨ha, e⟩) (r.mono g)
  | dict l =>
    obtain ⟨kvs, hd, hs, r⟩ := o
    obtain ⟨ob, ho, hi⟩ := Heap.dictOf_iff.mp hd
    exact .dict (vis_iff.mpr ⟨ha, ho⟩) hi hs (r.mono g)
  | _ => exact o.elim

/-- an own container is frozen -/
theorem St.frz (T : St W hb env sc Mo ioL s0 om V s) {x : Str} {v : AV} (hv : V x = some (.own v)) : St W hb env sc Mo ioL s0 (rmo om x) (upd V x (.frz v)) s := by
  have T1 := (T.weak (V' := dropV V x) dropV_le).rm (x := x) (fun v h => by unfold dropV at h; rw [if_pos rfl] at h; cases h)
  refine { T1 with io1 := ?_, vars := ?_ }
  · intro y z w w' h1 h2
    unfold upd at h1 h2
    split at h1
    · (first | exact none_ne h1 | obtain rfl := Option.some.inj h1 | cases h1)
    · split at h2
      · (first | exact none_ne h2 | obtain rfl := Option.some.inj h2 | cases h2)
      · exact T.io1 y z w w' h1 h2
  · intro y w h1 h2
    unfold upd at h2
    split at h2
    · rename_i hy; subst hy; (first | exact none_ne h2 | obtain rfl := Option.some.inj h2 | cases h2)
      obtain ⟨u, ⟨a, e, hl, o⟩, r⟩ := T.vars y _ h1 hv
      refine ⟨u, ?_, r⟩
      show Rp W _ _ _
      rw [e]
      refine o.rp (gle_less mm_rmo) fun q => ?_
      have hmem := mem_om hl
      rcases List.mem_append.mp q with q | q
      · obtain ⟨p, hp, hpa⟩ := List.mem_map.mp q
        obtain ⟨hp1, hp2⟩ := List.mem_filter.mp hp
        have hnd := (List.nodup_append.mp T.nod).1
        have : p.1 = y := name_of_snd hnd (c := a) (n := p.1) (n' := y) (by rw [← hpa]; exact hp1) (mem_of_lookup hl)
        simp [this] at hp2
      · rcases List.mem_append.mp q with q | q
        · exact (List.nodup_append.mp T.nod).2.2 a hmem a q rfl
        · exact T.apart a (List.mem_append_left _ hmem) q
    · rename_i hy
      exact T1.vars y w h1 (by unfold dropV; rw [if_neg hy]; exact h2)

/-- a new own container -/
theorem St.own (T : St W hb env sc Mo ioL s0 om V s) {x : Str} {a : Addr} (k : Kept s s') (ha : s.heap.get? a = none) (ha' : ∃ o, s'.heap.get? a = some o) (hx : ∀ v, V x ≠ some (.own v)) : St W hb env sc Mo ioL s0 ((x, a) :: om) V s' := by
  have T1 := T.kept k
  have fr : ∀ b, b ∈ mm om env Mo → b ≠ a := fun b hb e => by
    obtain ⟨o, ho⟩ := T.bd b hb
    rw [e, ha] at ho; (first | exact none_ne ho | obtain rfl := Option.some.inj ho | cases ho)
  have g : GLe (vis s.heap (mm om env Mo)) (vis s'.heap (mm ((x, a) :: om) env Mo)) := gle_vis (fun b o _ e => k.get (by simp) e) fun b hb => by
    rcases List.mem_cons.mp hb with rfl | q
    · exact .inr ha
    · exact .inl q
  refine { T1 with bd := ?_, fresh := ?_, nod := ?_, apart := ?_, vars := ?_ }
  · intro b hb
    rcases List.mem_cons.mp hb with rfl | q
    · exact ha'
    · exact T1.bd b q
  · intro b hb
    rcases List.mem_cons.mp hb with rfl | q
    · rcases dead_moves T.moves ha with q | q
      · have := fr b (List.mem_append_right _ (List.mem_append_right _ (T.ioB b q).2))
        exact absurd rfl this
      · exact q
    · exact T.fresh b q
  · refine List.nodup_cons.mpr ⟨fun q => ?_, T.nod⟩
    have : a ∈ mm om env Mo := by
      rcases List.mem_append.mp q with q | q
      · exact List.mem_append_left _ q
      · exact List.mem_append_right _ (List.mem_append_left _ q)
    exact fr a this rfl
  · intro b hb
    rcases List.mem_cons.mp hb with rfl | q
    · intro q
      exact fr b (List.mem_append_right _ (List.mem_append_right _ q)) rfl
    · exact T.apart b q
  · intro y v h1 h2
    refine (T.vars y v h1 h2).kept k.hle fun u h => ?_
    cases v with
    | frz v => exact Rp.mono g h
    | own v =>
      obtain ⟨b, e, hl, o⟩ := h
      have hne : (y == x) = false := by simpa using fun q : y = x => hx v (q ▸ h2)
      exact ⟨b, e, by rw [List.lookup_cons, hne]; exact hl, o.mono (fun _ q => k.get (by simp) q) g⟩
    | io v => obtain ⟨b, e, hl, o⟩ := h; exact ⟨b, e, hl, o.mono (fun _ q => k.get (by simp) q) g⟩
end
end Mine

end

/-! part Stm2 -/
section
set_option maxRecDepth 10000
set_option autoImplicit false
set_option linter.unusedVariables false
namespace Mine
open PySem PySem.W PyProof.Rows

theorem put_lookup {α : Type} {x : Str} {v : α} : ∀ (l : List (Str × α)) (y : Str), (put l x v).lookup y = if y = x then some v else l.lookup y
  | [], y => by
    simp only [put, List.lookup_cons, List.lookup_nil]
    by_cases h : y = x
    · subst h; simp
    · have : (y == x) = false := by simpa using h
      rw [this, if_neg h]
  | (k, u) :: r, y => by
    simp only [put]
    split
    · rename_i hk; subst hk
      simp only [List.lookup_cons]
      by_cases h : y = k
      · subst h; simp
      · have : (y == k) = false := by simpa using h
        rw [this, if_neg h]
    · rename_i hk
      simp only [List.lookup_cons]
      by_cases h : y = k
      · subst h
        simp [hk]
      · have : (y == k) = false := by simpa using h
        rw [this]
        exact put_lookup r y

theorem Vof_put {ρ : R} {x : Str} {v : Var} : Vof { ρ with vars := put ρ.vars x v } = upd (Vof ρ) x v := by
  funext y
  exact put_lookup _ _

theorem Ns_unique {h : Heap} {a : Addr} {m m' : Str → Option Value} (x : h.Ns a m) (y : h.Ns a m') : m = m' := by
  obtain ⟨o, es, ep, ho, hd, _, hf⟩ := x
  obtain ⟨o', es', ep', ho', hd', _, hf'⟩ := y
  rw [ho] at ho'; cases ho'
  rw [hd] at hd'; cases hd'
  funext n
  rw [← hf n, hf' n]

theorem var_kind {sc : Scope} {x : Str} (h : kind ⟨sc, none⟩ x = some .var) : sc.names.lookup x = some .local ∨ sc.names.lookup x = some .cell := by
  rcases kind_out h with ⟨_, h⟩ | ⟨q, _⟩
  · exact h
  · cases q

section
variable {W : Wd} {hb : Heap} {env : Env} {sc : Scope} {Mo ioL : List Addr} {s0 s s' s'' : Shared} {om om' om'' : List (Str × Addr)} {V V' : VF} {A : Around} {E : Value → Shared → Prop} {M m : List Addr} {ρ ρ' : R}

theorem mem_cells {x : Str} {c : Addr} (h : env.cells.lookup x = some c) : c ∈ FM env := List.mem_cons_of_mem _ (List.mem_map.mpr ⟨(x, c), mem_of_lookup h, rfl⟩)

/-- an address of the frame moves: how the rest stands -/
theorem St.frameMove (T : St W hb env sc Mo ioL s0 om V s) {a : Addr} (ha : a ∈ FM env) (k : Moves [a] s s') (hal : ∃ o, s'.heap.get? a = some o) {x : Str} {v : Var} (hns : ∃ m, s'.heap.Ns env.locals m) (hcl : ∀ y c, env.cells.lookup y = some c → ∃ v, s'.heap.IsCell c v)
    (hio : ∀ w, v ≠ .io w) (hx : kind ⟨sc, none⟩ x = some .var → NameAt env s'.heap x (VarOk W om ioL s'.heap (mm om env Mo) x v))
    (hy : ∀ y u, y ≠ x → (∃ m, s.heap.Ns env.locals m ∧ m y = some u) → env.kindOf y = some .local → ∃ m, s'.heap.Ns env.locals m ∧ m y = some u)
    (hc : ∀ y c u, y ≠ x → env.cells.lookup y = some c → env.kindOf y = some .cell → s.heap.IsCell c (some u) → s'.heap.IsCell c (some u)) : St W hb env sc Mo ioL s0 om (upd V x v) s' where
  base := T.base
  ioB := T.ioB
  moves := T.moves.next k fun b hb => .inr (by simp at hb; rw [hb]; exact T.fresh a (List.mem_append_right _ ha))
  bd := fun b hb => by
    by_cases e : b = a
    · rw [e]; exact hal
    · obtain ⟨o, ho⟩ := T.bd b hb
      exact ⟨o, k.get (by simpa using e) ho⟩
  fresh := T.fresh
  nod := T.nod
  apart := T.apart
  ns := hns
  cells := hcl
  io1 := fun y z w w' h1 h2 => by
    unfold upd at h1 h2
    split at h1
    · cases h1; exact absurd rfl (hio w)
    · split at h2
      · cases h2; exact absurd rfl (hio w')
      · exact T.io1 y z w w' h1 h2
  vars := fun y w h1 h2 => by
    unfold upd at h2
    split at h2
    · rename_i e; subst e; (first | exact none_ne h2 | obtain rfl := Option.some.inj h2 | cases h2)
      exact hx h1
    · rename_i e
      obtain ⟨u, hu, r⟩ := T.vars y w h1 h2
      refine ⟨u, ?_, ?_⟩
      · refine VarOk.moves (m := [a]) ?_ ?_ ?_ k hu
        · simp only [List.mem_singleton]
          rintro b rfl
          exact List.mem_append_right _ (List.mem_append_left _ ha)
        · simp only [List.mem_singleton]
          rintro b hl rfl
          exact (List.nodup_append.mp T.nod).2.2 b (mem_om hl) b ha rfl
        · simp only [List.mem_singleton]
          rintro b hl rfl
          exact T.apart b (List.mem_append_right _ ha) (T.ioB b hl).2
      · rcases r with ⟨e1, q⟩ | ⟨e1, c, q1, q2⟩
        · exact .inl ⟨e1, hy y u e q e1⟩
        · exact .inr ⟨e1, c, q1, hc y c u e q1 e1 q2⟩

theorem St.store (F : FrOk env sc) (T : St W hb env sc Mo ioL s0 om V s) {x : Str} {v : Var} {u : Value} (hk : kind ⟨sc, none⟩ x = some .var) (hv : VarOk W om ioL s.heap (mm om env Mo) x v u) (hio : ∀ w, v ≠ .io w) :
    wpAny W.md A (storeName env x u) (fun _ s' => St W hb env sc Mo ioL s0 om (upd V x v) s' ∧ Moves (FM env) s s') E s := by
  have hkd : env.scope.kind = .function := by rw [F.scp]; exact F.knd
  have hnd := (List.nodup_append.mp T.nod).2.1
  have hLc : env.locals ∉ env.cells.map (·.2) := (List.nodup_cons.mp hnd).1
  have hcn : (env.cells.map (·.2)).Nodup := (List.nodup_cons.mp hnd).2
  obtain ⟨m0, hm0⟩ := T.ns
  have keepV : ∀ {a : Addr} {s' : Shared}, a ∈ FM env → Moves [a] s s' → VarOk W om ioL s'.heap (mm om env Mo) x v u := fun {a s'} ha k => by
    refine VarOk.moves (m := [a]) ?_ ?_ ?_ k hv
    · simp only [List.mem_singleton]
      rintro b rfl
      exact List.mem_append_right _ (List.mem_append_left _ ha)
    · simp only [List.mem_singleton]
      rintro b hl rfl
      exact (List.nodup_append.mp T.nod).2.2 b (mem_om hl) b ha rfl
    · simp only [List.mem_singleton]
      rintro b hl rfl
      exact T.apart b (List.mem_append_right _ ha) (T.ioB b hl).2
  have hko : env.kindOf x = some .local ∨ env.kindOf x = some .cell := by
    have := var_kind hk
    show env.scope.names.lookup x = _ ∨ env.scope.names.lookup x = _
    rw [F.scp]; exact this
  rcases hko with hko | hko
  · refine wpAny_storeName_local hko hm0 (fun h' hn' hs' => ?_) (by show ((env.scope.kind == .class) || (env.scope.kind == .module && _)) = false; rw [hkd]; rfl)
    have k : Moves [env.locals] s { s with heap := h', toks := s.toks + 1 } := moves_but _ hs'
    have hL : env.locals ∈ FM env := List.mem_cons_self
    have hal : ∃ o, h'.get? env.locals = some o := by obtain ⟨o, _, _, ho, _⟩ := hn'; exact ⟨o, ho⟩
    have cne : ∀ {y : Str} {c : Addr}, env.cells.lookup y = some c → c ≠ env.locals := fun {y c} h e => hLc (e ▸ List.mem_map.mpr ⟨(y, c), mem_of_lookup h, rfl⟩)
    refine ⟨T.frameMove hL k hal ⟨_, hn'⟩ (fun y c h => ?_) hio (fun _ => ⟨u, keepV hL k, .inl ⟨hko, _, hn', by simp⟩⟩) (fun y w hne q _ => ?_) (fun y c w hne h1 _ h2 => h2.sameBut hs' (cne h1)), k.mono fun a ha => .inl (by simp at ha; rw [ha]; exact hL)⟩
    · obtain ⟨w, hw⟩ := T.cells y c h
      exact ⟨w, hw.sameBut hs' (cne h)⟩
    · obtain ⟨m1, hm1, e1⟩ := q
      rw [Ns_unique hm1 hm0] at e1
      exact ⟨_, hn', by simp only [hne, if_false]; exact e1⟩
  · obtain ⟨c, hc⟩ : ∃ c, env.cells.lookup x = some c := F.cel x (by have : env.scope.names.lookup x = _ := hko; rw [F.scp] at this; exact this)
    obtain ⟨v0, hv0⟩ := T.cells x c hc
    refine wpAny_storeName_cell hkd hko hc hv0 fun h' hn' hs' => ?_
    have k : Moves [c] s { s with heap := h' } := moves_but s.toks hs'
    have hcF : c ∈ FM env := mem_cells hc
    have hLne : env.locals ≠ c := fun e => hLc (e ▸ List.mem_map.mpr ⟨(x, c), mem_of_lookup hc, rfl⟩)
    have hal : ∃ o, h'.get? c = some o := by obtain ⟨o, ho, _⟩ := hn'; exact ⟨o, ho⟩
    have cne : ∀ {y : Str} {c' : Addr}, y ≠ x → env.cells.lookup y = some c' → c' ≠ c := fun {y c'} hy h e => hy (name_of_snd hcn (c := c) (e ▸ mem_of_lookup h) (mem_of_lookup hc))
    refine ⟨T.frameMove hcF k hal ⟨m0, hm0.sameBut hs' hLne⟩ (fun y c' h => ?_) hio (fun _ => ⟨u, keepV hcF k, .inr ⟨hko, c, hc, hn'⟩⟩) (fun y w hne q _ => ?_) (fun y c' w hne h1 _ h2 => h2.sameBut hs' (cne hne h1)), k.mono fun a ha => .inl (by simp at ha; rw [ha]; exact hcF)⟩
    · by_cases e : y = x
      · subst e
        rw [hc] at h; (first | exact none_ne h | obtain rfl := Option.some.inj h | cases h)
        exact ⟨_, hn'⟩
      · obtain ⟨w, hw⟩ := T.cells y c' h
        exact ⟨w, hw.sameBut hs' (cne e h)⟩
    · obtain ⟨m1, hm1, e1⟩ := q
      exact ⟨m1, hm1.sameBut hs' hLne, e1⟩

theorem mv_frame : ∀ a ∈ FM env, a ∈ mv om env ioL := fun a h => List.mem_append_right _ (List.mem_append_left _ h)

theorem setV_spec {x : Str} {v : Var} (e : setV sc ρ x v = some ρ') : kind ⟨sc, none⟩ x = some .var ∧ (∀ w, Vof ρ x ≠ some (.io w)) ∧ Vof ρ' = upd (Vof ρ) x v := by
  refine ifs e fun h e => ⟨isK_inv h.1, fun w q => ?_, (Option.some.inj e).symm ▸ Vof_put⟩
  have := h.2
  rw [show ρ.vars.lookup x = some (.io w) from q] at this
  cases this

theorem upd_drop {x : Str} {v : Var} : upd (dropV V x) x v = upd V x v := by
  funext y
  unfold upd dropV
  split
  · rfl
  · rfl

/-- a frozen value is stored -/
theorem setV_frz (F : FrOk env sc) (T : St W hb env sc Mo ioL s0 om (Vof ρ) s) {x : Str} {v : AV} {u : Value} (e : setV sc ρ x (.frz v) = some ρ') (hv : Rp W (vis s.heap (mm om env Mo)) u v) :
    wpAny W.md A (storeName env x u) (fun _ s' => St W hb env sc Mo ioL s0 (rmo om x) (Vof ρ') s' ∧ Step env ioL om s (rmo om x) s' ∧ Moves (FM env) s s') E s := by
  obtain ⟨hk, _, hρ⟩ := setV_spec e
  have T1 := (T.weak (V' := dropV (Vof ρ) x) dropV_le).rm (x := x) (fun v h => by unfold dropV at h; rw [if_pos rfl] at h; cases h)
  refine wpAny_mono (T1.store F (v := .frz v) hk (show Rp W _ _ _ from hv.mono (gle_less mm_rmo)) (fun w q => by cases q)) (fun _ s' h => ?_) fun _ _ q => q
  rw [upd_drop] at h
  rw [hρ]
  exact ⟨h.1, .less rmo_sub (h.2.mono fun a ha => .inl (mv_frame a ha)), h.2⟩

/-- a new container is stored -/
theorem setV_own (F : FrOk env sc) (T : St W hb env sc Mo ioL s0 om (Vof ρ) s) {x : Str} {v : AV} {a : Addr} (e : setV sc ρ x (.own v) = some ρ') (k : Kept s s') (ha : s.heap.get? a = none) (hv : OwnAt W s'.heap (vis s'.heap (a :: mm om env Mo)) a v) :
    wpAny W.md A (storeName env x (.ref a)) (fun _ s'' => St W hb env sc Mo ioL s0 ((x, a) :: rmo om x) (Vof ρ') s'' ∧ Step env ioL om s ((x, a) :: rmo om x) s'' ∧ Moves (FM env) s' s'') E s' := by
  obtain ⟨hk, _, hρ⟩ := setV_spec e
  have T1 := (T.weak (V' := dropV (Vof ρ) x) dropV_le).rm (x := x) (fun v h => by unfold dropV at h; rw [if_pos rfl] at h; cases h)
  have T2 := T1.own (x := x) k ha hv.there (fun v h => by unfold dropV at h; rw [if_pos rfl] at h; cases h)
  refine wpAny_mono (T2.store F (v := .own v) hk ⟨a, rfl, by rw [List.lookup_cons]; simp, hv.mono (fun _ q => q) (gle_less fun b hb => ?_)⟩ (fun w q => by cases q)) (fun _ s'' h => ?_) fun _ _ q => q
  · rcases List.mem_cons.mp hb with rfl | q
    · exact List.mem_cons_self
    · exact List.mem_cons_of_mem _ (mm_rmo b q)
  · rw [upd_drop] at h
    rw [hρ]
    refine ⟨h.1, ⟨(Moves.of_kept k).trans (h.2.mono fun b hb => .inl (mv_frame b hb)), fun b hb => ?_⟩, h.2⟩
    rcases List.mem_cons.mp hb with rfl | q
    · exact .inr ha
    · exact .inl (List.mem_append_left _ (rmo_sub b q))

/-! freezing -/

theorem frzOf_inv {w : Option Var} {v : AV} (e : frzOf w = some v) : w = some (.own v) := bnd e fun w h1 e => by
  cases w with
  | own u => exact h1.trans (congrArg (fun u => some (Var.own u)) (Option.some.inj e))
  | _ => exact none_ne e
theorem freeze1_ok (T : St W hb env sc Mo ioL s0 om (Vof ρ) s) (x : Str) : ∃ om', St W hb env sc Mo ioL s0 om' (Vof (freeze1 ρ x)) s ∧ ∀ a ∈ om'.map (·.2), a ∈ om.map (·.2) := by
  unfold freeze1
  cases hv : frzOf (ρ.vars.lookup x) with
  | none => exact ⟨om, T, fun a h => h⟩
  | some v => exact ⟨_, Vof_put ▸ T.frz (frzOf_inv hv), rmo_sub⟩

theorem freezeL_ok : ∀ (l : List Str) (om : List (Str × Addr)) (ρ : R), St W hb env sc Mo ioL s0 om (Vof ρ) s → ∃ om', St W hb env sc Mo ioL s0 om' (Vof (l.foldl freeze1 ρ)) s ∧ ∀ a ∈ om'.map (·.2), a ∈ om.map (·.2)
  | [], om, ρ, T => ⟨om, T, fun a h => h⟩
  | x :: l, om, ρ, T => by
    obtain ⟨om1, T1, h1⟩ := freeze1_ok T x
    obtain ⟨om2, T2, h2⟩ := freezeL_ok l om1 _ T1
    exact ⟨om2, T2, fun a h => h1 a (h2 a h)⟩

theorem freeze_ok (T : St W hb env sc Mo ioL s0 om (Vof ρ) s) (e : PySem.Expr) : ∃ om', St W hb env sc Mo ioL s0 om' (Vof (freeze ρ e)) s ∧ Step env ioL om s om' s := by
  obtain ⟨om1, T1, h1⟩ := freezeL_ok (handed 12 e) om ρ T
  exact ⟨om1, T1, .less h1 (Moves.refl _ _)⟩

/-! own containers are changed -/

theorem setOwn_spec {x : Str} {c v' : AV} (e : ownOf ρ x = some c) : (Vof ρ x = some (.own c) ∧ Vof (setOwn ρ x v') = upd (Vof ρ) x (.own v')) ∨ (Vof ρ x = some (.io c) ∧ Vof (setOwn ρ x v') = upd (Vof ρ) x (.io v')) := by
  refine ifs e fun _ e => bnd e fun w hw e => ?_
  have hs : Vof (setOwn ρ x v') = upd (Vof ρ) x (reown (some w) v') := hw ▸ Vof_put
  cases w with
  | frz u => exact none_ne e
  | own u => exact .inl ⟨hw.trans (congrArg (fun u => some (Var.own u)) (Option.some.inj e)), hs⟩
  | io u => exact .inr ⟨hw.trans (congrArg (fun u => some (Var.io u)) (Option.some.inj e)), hs⟩

theorem own_debug {x : Str} {c : AV} (e : ownOf ρ x = some c) : x ≠ Str.ofString "__debug__" := ifs e fun h _ => h

/-- an own container of a name, and what comes of a change -/
structure UpOwn (W : Wd) (hb : Heap) (env : Env) (sc : Scope) (Mo ioL : List Addr) (s0 : Shared) (om : List (Str × Addr)) (ρ : R) (s : Shared) (x : Str) (c : AV) (a : Addr) : Prop where
  na : NameAt env s.heap x fun u => u = .ref a
  imm : a ∈ mm om env Mo
  imv : a ∈ mv om env ioL
  nb : hb.get? a = none
  fm : a ∉ FM env
  own : OwnAt W s.heap (vis s.heap (mm om env Mo)) a c
  go : ∀ s' v', Moves [a] s s' → OwnAt W s'.heap (vis s'.heap (mm om env Mo)) a v' → St W hb env sc Mo ioL s0 om (Vof (setOwn ρ x v')) s' ∧ Step env ioL om s om s'

theorem St.upOwn (T : St W hb env sc Mo ioL s0 om (Vof ρ) s) {x : Str} {c : AV} (hk : kind ⟨sc, none⟩ x = some .var) (e : ownOf ρ x = some c) :
    ∃ a, UpOwn W hb env sc Mo ioL s0 om ρ s x c a := by
  have main : ∀ (a : Addr) (v0 : Var) (v1 : AV → Var), Vof ρ x = some v0 → NameAt env s.heap x (fun u => u = .ref a) → a ∈ mm om env Mo → a ∈ mv om env ioL → a ∉ FM env → hb.get? a = none → (s0.heap.get? a = none ∨ a ∈ ioL) → OwnAt W s.heap (vis s.heap (mm om env Mo)) a c →
      (∀ y w b, y ≠ x → Vof ρ y = some (.own w) → om.lookup y = some b → b ≠ a) → (∀ y w b, y ≠ x → Vof ρ y = some (.io w) → b ∈ ioL → b ≠ a) →
      (∀ h' v', OwnAt W h' (vis h' (mm om env Mo)) a v' → VarOk W om ioL h' (mm om env Mo) x (v1 v') (.ref a)) →
      (∀ v', Vof (setOwn ρ x v') = upd (Vof ρ) x (v1 v')) → (∀ v' w, v1 v' = .io w → ∃ w', Vof ρ x = some (.io w')) →
      ∃ a, UpOwn W hb env sc Mo ioL s0 om ρ s x c a := by
    intro a v0 v1 hV hna hmm hmv hFM hhb hor hown hothers hothersio hok hset hisio
    refine ⟨a, hna, hmm, hmv, hhb, hFM, hown, fun s' v' k ho => ?_⟩
    have hns : ∀ {m}, s.heap.Ns env.locals m → s'.heap.Ns env.locals m := fun {m} ⟨o, es, ep, h1, r⟩ => ⟨o, es, ep, k.get (by simp; intro e; exact hFM (e ▸ List.mem_cons_self)) h1, r⟩
    have hcl : ∀ {y c v}, env.cells.lookup y = some c → s.heap.IsCell c v → s'.heap.IsCell c v := fun {y c v} h1 ⟨o, h2, r⟩ => ⟨o, k.get (by simp; intro e; exact hFM (e ▸ mem_cells h1)) h2, r⟩
    rw [hset]
    refine ⟨{ base := T.base, ioB := T.ioB, moves := ?_, bd := ?_, fresh := T.fresh, nod := T.nod, apart := T.apart, ns := let ⟨m, h⟩ := T.ns; ⟨m, hns h⟩, cells := fun y c h => let ⟨v, q⟩ := T.cells y c h; ⟨v, hcl h q⟩, io1 := ?_, vars := ?_ }, .less (fun _ h => h) (k.mono fun b hb => .inl (by simp at hb; rw [hb]; exact hmv))⟩
    · rcases hor with h | h
      · exact T.moves.next k fun b hb => .inr (by simp at hb; rw [hb]; exact h)
      · exact T.moves.next k fun b hb => .inl (by simp at hb; rw [hb]; exact h)
    · intro b hb
      by_cases e : b = a
      · rw [e]; exact ho.there
      · obtain ⟨o, h1⟩ := T.bd b hb
        exact ⟨o, k.get (by simpa using e) h1⟩
    · intro y z w w' h1 h2
      have get : ∀ y w, upd (Vof ρ) x (v1 v') y = some (.io w) → ∃ w', Vof ρ y = some (.io w') := fun y w h => by
        unfold upd at h
        split at h
        · rename_i e; rw [e]; exact hisio v' w (Option.some.inj h)
        · exact ⟨w, h⟩
      obtain ⟨w1, q1⟩ := get y w h1
      obtain ⟨w2, q2⟩ := get z w' h2
      exact T.io1 y z w1 w2 q1 q2
    · intro y w h1 h2
      unfold upd at h2
      split at h2
      · rename_i e; subst e; (first | exact none_ne h2 | obtain rfl := Option.some.inj h2 | cases h2)
        obtain ⟨u, hu, r⟩ := hna
        subst hu
        refine ⟨_, hok _ _ ho, ?_⟩
        rcases r with ⟨e1, m, q1, q2⟩ | ⟨e1, c, q1, q2⟩
        · exact .inl ⟨e1, m, hns q1, q2⟩
        · exact .inr ⟨e1, c, q1, hcl q1 q2⟩
      · rename_i e
        obtain ⟨u, hu, r⟩ := T.vars y w h1 h2
        refine ⟨u, ?_, ?_⟩
        · have g : GLe (vis s.heap (mm om env Mo)) (vis s'.heap (mm om env Mo)) := gle_moves k (by simpa using hmm)
          cases w with
          | frz w => exact Rp.mono g hu
          | own w =>
            obtain ⟨b, e', hl, o⟩ := hu
            exact ⟨b, e', hl, o.mono (fun _ q => k.get (by simpa using hothers y w b e h2 hl) q) g⟩
          | io w =>
            obtain ⟨b, e', hl, o⟩ := hu
            exact ⟨b, e', hl, o.mono (fun _ q => k.get (by simpa using hothersio y w b e h2 hl) q) g⟩
        · rcases r with ⟨e1, m, q1, q2⟩ | ⟨e1, c, q1, q2⟩
          · exact .inl ⟨e1, m, hns q1, q2⟩
          · exact .inr ⟨e1, c, q1, hcl q1 q2⟩
  have hbnone : ∀ {a}, s0.heap.get? a = none → hb.get? a = none := fun {a} h => by
    cases q : hb.get? a with
    | none => rfl
    | some o => rw [T.base _ _ q] at h; (first | exact none_ne h | obtain rfl := Option.some.inj h | cases h)
  rcases setOwn_spec (v' := c) e with ⟨hV, _⟩ | ⟨hV, _⟩
  · obtain ⟨u, ⟨a, hu, hl, ho⟩, r⟩ := T.vars x _ hk hV
    have hmem := mem_om hl
    refine main a _ .own hV ⟨u, hu, r⟩ (List.mem_append_left _ hmem) (List.mem_append_left _ hmem) (fun q => (List.nodup_append.mp T.nod).2.2 a hmem a q rfl) (hbnone (T.fresh a (List.mem_append_left _ hmem))) (.inl (T.fresh a (List.mem_append_left _ hmem))) ho ?_ ?_ ?_ ?_ ?_
    · intro y w b hne h1 h2 e'
      exact hne (name_of_snd (List.nodup_append.mp T.nod).1 (c := a) (e' ▸ mem_of_lookup h2) (mem_of_lookup hl))
    · intro y w b hne h1 h2 e'
      exact T.apart a (List.mem_append_left _ hmem) (e' ▸ (T.ioB b h2).2)
    · intro h' v' ho'; exact ⟨a, rfl, hl, ho'⟩
    · intro v'
      rcases setOwn_spec (v' := v') e with ⟨_, q⟩ | ⟨q, _⟩
      · exact q
      · rw [hV] at q; cases q
    · intro v' w q; cases q
  · obtain ⟨u, ⟨a, hu, hl, ho⟩, r⟩ := T.vars x _ hk hV
    have hMo := (T.ioB a hl).2
    refine main a _ .io hV ⟨u, hu, r⟩ (List.mem_append_right _ (List.mem_append_right _ hMo)) (List.mem_append_right _ (List.mem_append_right _ hl)) (fun q => T.apart a (List.mem_append_right _ q) hMo) (T.ioB a hl).1 (.inr hl) ho ?_ ?_ ?_ ?_ ?_
    · intro y w b hne h1 h2 e'
      exact T.apart b (List.mem_append_left _ (mem_om h2)) (e' ▸ hMo)
    · intro y w b hne h1 h2 e'
      exact hne (T.io1 y x w _ h1 hV)
    · intro h' v' ho'; exact ⟨a, rfl, hl, ho'⟩
    · intro v'
      rcases setOwn_spec (v' := v') e with ⟨q, _⟩ | ⟨_, q⟩
      · rw [hV] at q; cases q
      · exact q
    · intro v' w q; exact ⟨_, hV⟩
end
end Mine

end

/-! part Stm3 -/
section
set_option maxRecDepth 10000
set_option autoImplicit false
set_option linter.unusedVariables false
namespace Mine
open PySem PySem.W PyProof.Rows

noncomputable def FlOk (W : Wd) (g : G) : Flow → Fl → Prop
  | .next, .next => True
  | .brk, .brk => True
  | .cont, .cont => True
  | .ret u, .ret v => Rp W g u v
  | _, _ => False

section
variable {W : Wd} {hb : Heap} {env : Env} {sc : Scope} {Mo ioL : List Addr} {s0 s s' s'' : Shared} {om om' om'' : List (Str × Addr)} {A : Around} {E : Value → Shared → Prop} {ρ ρ' ρ1 : R} {r : Rec} {n : Nat}

noncomputable def Post (W : Wd) (hb : Heap) (env : Env) (sc : Scope) (Mo ioL : List Addr) (s0 : Shared) (om : List (Str × Addr)) (s : Shared) (fl : Fl) (ρ' : R) (f : Flow) (s' : Shared) : Prop :=
  ∃ om', FlOk W (vis s'.heap (mm om' env Mo)) f fl ∧ St W hb env sc Mo ioL s0 om' (Vof ρ') s' ∧ Step env ioL om s om' s'

noncomputable def ExSound (W : Wd) (hb : Heap) (n : Nat) (r : Rec) : Prop :=
  ∀ sc ρ body fl ρ', r.ex sc ρ body = some (fl, ρ') → ∀ env Mo ioL s0 om A s E, AOk A n → FrOk env sc → St W hb env sc Mo ioL s0 om (Vof ρ) s →
    wpAny W.md A (execs body env) (Post W hb env sc Mo ioL s0 om s fl ρ') E s

theorem Post.after (k : Step env ioL om s om' s') {fl : Fl} {f : Flow} (p : Post W hb env sc Mo ioL s0 om' s' fl ρ' f s'') : Post W hb env sc Mo ioL s0 om s fl ρ' f s'' :=
  let ⟨o, a, b, c⟩ := p; ⟨o, a, b, k.trans c⟩
theorem Post.next (T : St W hb env sc Mo ioL s0 om' (Vof ρ') s') (k : Step env ioL om s om' s') : Post W hb env sc Mo ioL s0 om s .next ρ' .next s' := ⟨om', trivial, T, k⟩

/-! targets -/

theorem assignName_ok (F : FrOk env sc) (T : St W hb env sc Mo ioL s0 om (Vof ρ) s) {x : Str} {pos : Pos} {v : AV} {u : Value} (e : setV sc ρ x (.frz v) = some ρ') (hv : Rp W (vis s.heap (mm om env Mo)) u v) :
    wpAny W.md A (assign (.Name x pos) env u) (fun _ s' => St W hb env sc Mo ioL s0 (rmo om x) (Vof ρ') s' ∧ Step env ioL om s (rmo om x) s' ∧ Moves (FM env) s s') E s :=
  wpAny_assign_Name (setV_frz F T e hv)

theorem assignEach_name {x : Str} {p : Pos} {ts : List PySem.Expr} : assignEach (.Name x p :: ts) env = (false, assign (.Name x p) env) :: assignEach ts env := rfl

theorem setAll_cons {t : PySem.Expr} {ts : List PySem.Expr} {v : AV} {l : List AV} (e : setAll sc (t :: ts) (v :: l) ρ = some ρ') : ∃ x p ρ1, t = .Name x p ∧ setV sc ρ x (.frz v) = some ρ1 ∧ setAll sc ts l ρ1 = some ρ' := by
  refine bnd e fun x h1 e => bnd (o := some v) e fun w h2 e => bnd e fun ρ1 h3 e4 => ?_
  obtain ⟨p, h1⟩ := nameOf_some h1
  obtain rfl := Option.some.inj h2
  exact ⟨x, p, ρ1, h1, h3, e4⟩

theorem setAll_shape : ∀ (ts : List PySem.Expr) (l : List AV) (ρ : R), setAll sc ts l ρ = some ρ' → (assignEach ts env).length = ts.length ∧ (assignEach ts env).findIdx? (·.1) = none
  | [], l, ρ, e => ⟨rfl, rfl⟩
  | t :: ts, l, ρ, e => bnd e fun x h1 e => bnd e fun v _ e => bnd e fun ρ1 _ e4 => by
    have := setAll_shape _ _ _ e4
    obtain ⟨p, rfl⟩ := nameOf_some h1
    rw [assignEach_name]
    exact ⟨congrArg Nat.succ this.1, by simp [List.findIdx?_cons, this.2]⟩

theorem setAll_ok (F : FrOk env sc) : ∀ (ts : List PySem.Expr) (l : List AV) (ρ : R) (om : List (Str × Addr)) (s : Shared) (vs : List Value), setAll sc ts l ρ = some ρ' → St W hb env sc Mo ioL s0 om (Vof ρ) s → RpL W (vis s.heap (mm om env Mo)) vs l →
    wpAny W.md A (assignInOrder ((assignEach ts env).map (·.2)) vs) (fun _ s' => ∃ om', St W hb env sc Mo ioL s0 om' (Vof ρ') s' ∧ Step env ioL om s om' s' ∧ Moves (FM env) s s' ∧ ∀ a ∈ om'.map (·.2), a ∈ om.map (·.2)) E s
  | [], l, ρ, om, s, vs, e, T, rv => by
    refine ifs e fun h e => ?_
    obtain rfl := Option.some.inj e
    obtain rfl := rv.emp' h
    exact wpAny_pure ⟨om, T, .refl, Moves.refl _ _, fun a h => h⟩
  | t :: ts, l, ρ, om, s, vs, e, T, rv => by
    refine bnd e fun x h1 e => bnd e fun v h2 e => bnd e fun ρ1 h3 e4 => ?_
    clear e
    obtain ⟨p, rfl⟩ := nameOf_some h1
    cases rv with
    | nil => exact none_ne h2
    | @cons u us _ l r1 r2 =>
      obtain rfl := Option.some.inj h2
      rw [assignEach_name]
      show wpAny _ _ (do holding us (assign (.Name x p) env u); assignInOrder ((assignEach ts env).map (·.2)) us) _ _ _
      refine wpAny_bind (wpAny_holding (wpAny_mono (assignName_ok F T h3 r1) (fun _ s1 h => ?_) fun _ _ q => q))
      obtain ⟨T1, k1, m1⟩ := h
      have g : GLe (vis s.heap (mm om env Mo)) (vis s1.heap (mm (rmo om x) env Mo)) := (gle_moves m1 fun a ha => List.mem_append_right _ (List.mem_append_left _ ha)).trans (gle_less mm_rmo)
      refine wpAny_mono (setAll_ok F ts l ρ1 (rmo om x) s1 us e4 T1 (r2.mono g)) (fun _ s2 h => ?_) fun _ _ q => q
      obtain ⟨om2, T2, k2, m2, hs2⟩ := h
      exact ⟨om2, T2, k1.trans k2, m1.trans m2, fun a ha => rmo_sub a (hs2 a ha)⟩

theorem assign_ok (F : FrOk env sc) (hh : A.handled = none) (T : St W hb env sc Mo ioL s0 om (Vof ρ) s) {t : PySem.Expr} {v : AV} {u : Value} (e : assignA sc t v ρ = some ρ') (hv : Rp W (vis s.heap (mm om env Mo)) u v) :
    wpAny W.md A (assign t env u) (fun _ s' => ∃ om', St W hb env sc Mo ioL s0 om' (Vof ρ') s' ∧ Step env ioL om s om' s' ∧ ∀ a ∈ om'.map (·.2), a ∈ om.map (·.2)) E s := by
  induction t using PySem.Expr.casesOn with
  | Name x p => exact wpAny_mono (assignName_ok F T e hv) (fun _ s' h => ⟨_, h.1, h.2.1, rmo_sub⟩) fun _ _ q => q
  | Tuple ts k p =>
    refine bnd (e : assignA sc (.Tuple ts k p) v ρ = some ρ') fun l hl e => ?_
    obtain ⟨h1, h2⟩ := setAll_shape (env := env) _ _ _ e
    rw [arm_assign_Tuple]
    refine wpAny_bind (wpAny_standAt ?_)
    unfold unpack
    rw [h1, h2]
    refine wpAny_bind (wpAny_holding (wpAny_mono (unpackItems_ok hh T.bd hv hl) (fun vs s1 h => ?_) fun _ _ q => q))
    refine wpAny_mono (setAll_ok F _ _ _ _ s1 vs e (T.kept h.1) h.2) (fun _ s2 h' => ?_) fun _ _ q => q
    obtain ⟨om2, T2, k2, _, hs2⟩ := h'
    exact ⟨om2, T2, (Step.kept h.1).trans k2, hs2⟩
  | _ => exact none_ne e

/-! simple statements -/

/-- an expression behind its freezing -/
theorem ev_frozen (S : EvSound W hb n r) (F : FrOk env sc) (ha : AOk A n) (T : St W hb env sc Mo ioL s0 om (Vof ρ) s) {x fx : PySem.Expr} {ar : AR} (e : r.ev ⟨sc, none⟩ (freeze ρ fx) x = some ar) :
    ∃ om1, Step env ioL om s om1 s ∧ St W hb env sc Mo ioL s0 om1 (Vof (freeze ρ fx)) s ∧
      wpAny W.md A (eval x env) (fun v s' => Kept s s' ∧ ARel W s'.heap (mm om1 env Mo) v ar ∧ St W hb env sc Mo ioL s0 om1 (Vof (freeze ρ fx)) s' ∧ Step env ioL om s om1 s') E s := by
  obtain ⟨om1, T1, k1⟩ := freeze_ok T fx
  refine ⟨om1, k1, T1, wpAny_mono (S _ _ _ _ e env _ A s E ha (T1.rd F)) (fun v s' h => ⟨h.1, h.2, T1.kept h.1, k1.trans (.kept h.1)⟩) fun _ _ q => q⟩

theorem ex_return (S : EvSound W hb n r) (F : FrOk env sc) (ha : AOk A n) (T : St W hb env sc Mo ioL s0 om (Vof ρ) s) {x : PySem.Expr} {pos : Pos} {v : AV} (e : r.ev ⟨sc, none⟩ (freeze ρ x) x = some ⟨v, false⟩) :
    wpAny W.md A (exec (.Return (some x) pos) env) (Post W hb env sc Mo ioL s0 om s (.ret v) (freeze ρ x)) E s := by
  obtain ⟨om1, _, _, h⟩ := ev_frozen (E := E) S F ha T e
  exact wpAny_Return_some (wpAny_mono h (fun u s' h => ⟨om1, h.2.1, h.2.2.1, h.2.2.2⟩) fun _ _ q => q)

theorem ex_break (T : St W hb env sc Mo ioL s0 om (Vof ρ) s) {pos : Pos} : wpAny W.md A (exec (.Break pos) env) (Post W hb env sc Mo ioL s0 om s .brk ρ) E s := wpAny_Break ⟨om, trivial, T, .refl⟩
theorem ex_continue (T : St W hb env sc Mo ioL s0 om (Vof ρ) s) {pos : Pos} : wpAny W.md A (exec (.Continue pos) env) (Post W hb env sc Mo ioL s0 om s .cont ρ) E s := wpAny_Continue ⟨om, trivial, T, .refl⟩
theorem ex_assert (Ts : TsSound W hb n r) (F : FrOk env sc) (ha : AOk A n) (T : St W hb env sc Mo ioL s0 om (Vof ρ) s) {t : PySem.Expr} {m : Option PySem.Expr} {pos : Pos} (e : r.ts ⟨sc, none⟩ ρ t = some true) :
    wpAny W.md A (exec (.Assert t m pos) env) (Post W hb env sc Mo ioL s0 om s .next ρ) E s :=
  wpAny_Assert_holds (wpAny_mono (Ts _ _ _ _ e env _ A s E ha (T.rd F)) (fun b s1 h => ⟨h.1, .next (T.kept h.2) (.kept h.2)⟩) fun _ _ q => q)

theorem ex_if (Ts : TsSound W hb n r) (X : ExSound W hb n r) (F : FrOk env sc) (ha : AOk A n) (T : St W hb env sc Mo ioL s0 om (Vof ρ) s) {t : PySem.Expr} {body orelse : List Stmt} {pos : Pos} {c : Bool} {fl : Fl}
    (et : r.ts ⟨sc, none⟩ (freeze ρ t) t = some c) (e : r.ex sc (freeze ρ t) (if c = true then body else orelse) = some (fl, ρ')) :
    wpAny W.md A (exec (.If t body orelse pos) env) (Post W hb env sc Mo ioL s0 om s fl ρ') E s := by
  obtain ⟨om1, T1, k1⟩ := freeze_ok T t
  refine wpAny_If (wpAny_mono (Ts _ _ _ _ et env _ A s E ha (T1.rd F)) (fun b s1 h => ?_) fun _ _ q => q)
  obtain ⟨rfl, k⟩ := h
  have T2 := T1.kept k
  cases b
  · exact wpAny_mono (X _ _ _ _ _ e env Mo ioL s0 om1 A s1 E ha F T2) (fun f s2 h => h.after (k1.trans (.kept k))) fun _ _ q => q
  · exact wpAny_mono (X _ _ _ _ _ e env Mo ioL s0 om1 A s1 E ha F T2) (fun f s2 h => h.after (k1.trans (.kept k))) fun _ _ q => q

/-- a plain value to a name -/
theorem no_swap {value : PySem.Expr} {t : Option PySem.Expr} {l : Nat} (h : isComp value = false) (h2 : ∀ a b c d, value ≠ .SetComp a b c d) (ht : t ≠ none) : swapsWith value t l env = pure false := by
  cases value <;> first | rfl | exact absurd rfl (h2 _ _ _ _) | cases h

theorem ex_name (S : EvSound W hb n r) (F : FrOk env sc) (ha : AOk A n) (T : St W hb env sc Mo ioL s0 om (Vof ρ) s) {x : Str} {xp pos : Pos} {value : PySem.Expr} {v : AV} (hc : isComp value = false) (h2 : ∀ a b c d, value ≠ .SetComp a b c d)
    (e : r.ev ⟨sc, none⟩ (freeze ρ value) value = some ⟨v, false⟩) (es : setV sc (freeze ρ value) x (.frz v) = some ρ') :
    wpAny W.md A (exec (.Assign [.Name x xp] value pos) env) (Post W hb env sc Mo ioL s0 om s .next ρ') E s := by
  obtain ⟨om1, _, _, h⟩ := ev_frozen (E := E) S F ha T e
  refine wpAny_Assign_Name (wpAny_mono h (fun u s1 h1 => ?_) fun _ _ q => q) (no_swap hc h2 (by simp))
  exact wpAny_mono (setV_frz F h1.2.2.1 es h1.2.1) (fun _ s2 h3 => .next h3.1 (h1.2.2.2.trans h3.2.1)) fun _ _ q => q

/-- a tuple of names -/
theorem ex_tuple (S : EvSound W hb n r) (F : FrOk env sc) (ha : AOk A n) (T : St W hb env sc Mo ioL s0 om (Vof ρ) s) {ts : List PySem.Expr} {k : Nat} {tp pos : Pos} {value : PySem.Expr} {v : AV}
    (hw : swappedStores [.Tuple ts k tp] value env = pure none)
    (e : r.ev ⟨sc, none⟩ (freeze ρ value) value = some ⟨v, false⟩) (es : assignA sc (.Tuple ts k tp) v (freeze ρ value) = some ρ') :
    wpAny W.md A (exec (.Assign [.Tuple ts k tp] value pos) env) (Post W hb env sc Mo ioL s0 om s .next ρ') E s := by
  obtain ⟨om1, _, _, h⟩ := ev_frozen (E := E) S F ha T e
  refine wpAny_Assign_stores (wpAny_mono h (fun u s1 h1 => ?_) fun _ _ q => q) (by cases value <;> rfl) hw
  show wpAny _ _ (assign (.Tuple ts k tp) env u) _ _ _
  exact wpAny_mono (assign_ok F ha.handled h1.2.2.1 es h1.2.1) (fun _ s2 ⟨om2, T2, k2, _⟩ => .next T2 (h1.2.2.2.trans k2)) fun _ _ q => q
end
end Mine

end

/-! part Stm4 -/
section
set_option maxRecDepth 10000
set_option autoImplicit false
set_option linter.unusedVariables false
namespace Mine
open PySem PySem.W PyProof.Rows

section
variable {W : Wd} {hb : Heap} {env : Env} {sc : Scope} {Mo ioL : List Addr} {s0 s s' s'' : Shared} {om om' om'' : List (Str × Addr)} {V : VF} {A : Around} {E : Value → Shared → Prop} {ρ ρ' ρ1 : R} {r : Rec} {n : Nat} {C : Addr}

/-- something new that is hidden -/
theorem St.hide (T : St W hb env sc Mo ioL s0 om V s) (k : Kept s s') (hC : s.heap.get? C = none) (hal : ∃ o, s'.heap.get? C = some o) : St W hb env sc (C :: Mo) ioL s0 om V s' := by
  have T1 := T.kept k
  have sub : ∀ a ∈ mm om env (C :: Mo), a ∈ mm om env Mo ∨ a = C := fun a h => by
    rcases List.mem_append.mp h with h | h
    · exact .inl (List.mem_append_left _ h)
    · rcases List.mem_append.mp h with h | h
      · exact .inl (List.mem_append_right _ (List.mem_append_left _ h))
      · rcases List.mem_cons.mp h with h | h
        · exact .inr h
        · exact .inl (List.mem_append_right _ (List.mem_append_right _ h))
  have ne : ∀ a ∈ mm om env Mo, a ≠ C := fun a h e => by
    obtain ⟨o, ho⟩ := T.bd a h
    rw [e, hC] at ho; (first | exact none_ne ho | obtain rfl := Option.some.inj ho | cases ho)
  have g : GLe (vis s.heap (mm om env Mo)) (vis s'.heap (mm om env (C :: Mo))) := gle_vis (fun b o _ e => k.get (by simp) e) fun a h => by
    rcases sub a h with h | h
    · exact .inl h
    · rw [h]; exact .inr hC
  refine { T1 with ioB := fun a h => ⟨(T.ioB a h).1, List.mem_cons_of_mem _ (T.ioB a h).2⟩, bd := fun a h => ?_, apart := fun a h q => ?_, vars := fun x v h1 h2 => ?_ }
  · rcases sub a h with h | h
    · exact T1.bd a h
    · rw [h]; exact hal
  · rcases List.mem_cons.mp q with q | q
    · refine ne a ?_ q
      rcases List.mem_append.mp h with h | h
      · exact List.mem_append_left _ h
      · exact List.mem_append_right _ (List.mem_append_left _ h)
    · exact T.apart a h q
  · refine (T.vars x v h1 h2).kept k.hle fun u h => ?_
    cases v with
    | frz v => exact Rp.mono g h
    | own v => obtain ⟨a, e, hl, o⟩ := h; exact ⟨a, e, hl, o.mono (fun _ q => k.get (by simp) q) g⟩
    | io v => obtain ⟨a, e, hl, o⟩ := h; exact ⟨a, e, hl, o.mono (fun _ q => k.get (by simp) q) g⟩

theorem mm_out : ∀ a ∈ mm om env Mo, a ∈ mm om env (C :: Mo) := fun a h => by
  rcases List.mem_append.mp h with h | h
  · exact List.mem_append_left _ h
  · rcases List.mem_append.mp h with h | h
    · exact List.mem_append_right _ (List.mem_append_left _ h)
    · exact List.mem_append_right _ (List.mem_append_right _ (List.mem_cons_of_mem _ h))

/-- what was hidden moves and is forgotten -/
theorem St.moveHid (T : St W hb env sc (C :: Mo) ioL s0 om V s) (k : Moves [C] s s') (hC : C ∉ ioL) (h0 : s0.heap.get? C = none) (hal : ∃ o, s'.heap.get? C = some o) : St W hb env sc (C :: Mo) ioL s0 om V s' := by
  have hF : C ∉ FM env := fun q => T.apart C (List.mem_append_right _ q) List.mem_cons_self
  have hns : ∀ {m}, s.heap.Ns env.locals m → s'.heap.Ns env.locals m := fun {m} ⟨o, es, ep, h1, r⟩ => ⟨o, es, ep, k.get (by simp; intro e; exact hF (e ▸ List.mem_cons_self)) h1, r⟩
  have hcl : ∀ {y c v}, env.cells.lookup y = some c → s.heap.IsCell c v → s'.heap.IsCell c v := fun {y c v} h1 ⟨o, h2, r⟩ => ⟨o, k.get (by simp; intro e; exact hF (e ▸ mem_cells h1)) h2, r⟩
  refine { T with moves := T.moves.next k (fun a h => .inr (by simp at h; rw [h]; exact h0)), bd := fun a h => ?_, ns := let ⟨m, h⟩ := T.ns; ⟨m, hns h⟩, cells := fun y c h => let ⟨v, q⟩ := T.cells y c h; ⟨v, hcl h q⟩, vars := fun x v h1 h2 => ?_ }
  · by_cases e : a = C
    · rw [e]; exact hal
    · obtain ⟨o, ho⟩ := T.bd a h
      exact ⟨o, k.get (by simpa using e) ho⟩
  · obtain ⟨u, hu, r⟩ := T.vars x v h1 h2
    refine ⟨u, VarOk.moves (m := [C]) ?_ ?_ ?_ k hu, ?_⟩
    · simp only [List.mem_singleton]
      rintro a rfl
      exact List.mem_append_right _ (List.mem_append_right _ List.mem_cons_self)
    · simp only [List.mem_singleton]
      rintro a hl rfl
      exact T.apart a (List.mem_append_left _ (mem_om hl)) List.mem_cons_self
    · simp only [List.mem_singleton]
      rintro a hl rfl
      exact hC hl
    · rcases r with ⟨e1, m, q1, q2⟩ | ⟨e1, c, q1, q2⟩
      · exact .inl ⟨e1, m, hns q1, q2⟩
      · exact .inr ⟨e1, c, q1, hcl q1 q2⟩
theorem St.show (T : St W hb env sc (C :: Mo) ioL s0 om V s) (hio : ∀ a ∈ ioL, a ∈ Mo) : St W hb env sc Mo ioL s0 om V s :=
  { T with ioB := fun a h => ⟨(T.ioB a h).1, hio a h⟩, bd := fun a h => T.bd a (mm_out a h), apart := fun a h q => T.apart a h (List.mem_cons_of_mem _ q),
           vars := fun x v h1 h2 => let ⟨u, hu, r⟩ := T.vars x v h1 h2; ⟨u, VarOk.vis (gle_less mm_out) hu, r⟩ }

theorem St.forget (T : St W hb env sc (C :: Mo) ioL s0 om V s) (k : Moves [C] s s') (hio : ∀ a ∈ ioL, a ∈ Mo) (hC : C ∉ Mo) (h0 : s0.heap.get? C = none) : St W hb env sc Mo ioL s0 om V s' := by
  have hF : C ∉ FM env := fun q => T.apart C (List.mem_append_right _ q) List.mem_cons_self
  have hns : ∀ {m}, s.heap.Ns env.locals m → s'.heap.Ns env.locals m := fun {m} ⟨o, es, ep, h1, r⟩ => ⟨o, es, ep, k.get (by simp; intro e; exact hF (e ▸ List.mem_cons_self)) h1, r⟩
  have hcl : ∀ {y c v}, env.cells.lookup y = some c → s.heap.IsCell c v → s'.heap.IsCell c v := fun {y c v} h1 ⟨o, h2, r⟩ => ⟨o, k.get (by simp; intro e; exact hF (e ▸ mem_cells h1)) h2, r⟩
  have hCo : ∀ {x : Str} {a : Addr}, om.lookup x = some a → a ≠ C := fun hl q => T.apart _ (List.mem_append_left _ (mem_om hl)) (q ▸ List.mem_cons_self)
  have hin : C ∉ mm om env Mo := fun q => by
    rcases List.mem_append.mp q with q | q
    · exact T.apart C (List.mem_append_left _ q) List.mem_cons_self
    · rcases List.mem_append.mp q with q | q
      · exact hF q
      · exact hC q
  have g : GLe (vis s.heap (mm om env (C :: Mo))) (vis s'.heap (mm om env Mo)) := fun a o e => by
    obtain ⟨h1, h2⟩ := vis_iff.mp e
    refine vis_iff.mpr ⟨fun q => h1 (mm_out a q), k.get (fun q => h1 ?_) h2⟩
    simp at q
    rw [q]
    exact List.mem_append_right _ (List.mem_append_right _ List.mem_cons_self)
  refine { T with ioB := fun a h => ⟨(T.ioB a h).1, hio a h⟩, apart := fun a h q => T.apart a h (List.mem_cons_of_mem _ q), moves := T.moves.next k (fun a h => .inr (by simp at h; rw [h]; exact h0)), bd := fun a h => ?_, ns := let ⟨m, h⟩ := T.ns; ⟨m, hns h⟩, cells := fun y c h => let ⟨v, q⟩ := T.cells y c h; ⟨v, hcl h q⟩, vars := fun x v h1 h2 => ?_ }
  · obtain ⟨o, ho⟩ := T.bd a (mm_out a h)
    exact ⟨o, k.get (by simp; rintro rfl; exact hin h) ho⟩
  · obtain ⟨u, hu, r⟩ := T.vars x v h1 h2
    refine ⟨u, ?_, ?_⟩
    · cases v with
      | frz v => exact Rp.mono g hu
      | own v => obtain ⟨a, e, hl, o⟩ := hu; exact ⟨a, e, hl, o.mono (fun _ q => k.get (by simp; exact hCo hl) q) g⟩
      | io v => obtain ⟨a, e, hl, o⟩ := hu; exact ⟨a, e, hl, o.mono (fun _ q => k.get (by simp; rintro rfl; exact hC (hio _ hl)) q) g⟩
    · rcases r with ⟨e1, m, q1, q2⟩ | ⟨e1, c, q1, q2⟩
      · exact .inl ⟨e1, m, hns q1, q2⟩
      · exact .inr ⟨e1, c, q1, hcl q1 q2⟩

/-! new containers that are stored at once -/

/-- what storing a new container must bring about -/
noncomputable def StoreNew (W : Wd) (A : Around) (env : Env) (M : List Addr) (s : Shared) (x : Str) (v : AV) (Q : Flow → Shared → Prop) (E : Value → Shared → Prop) : Prop :=
  (∀ a s', Kept s s' → s.heap.get? a = none → OwnAt W s'.heap (vis s'.heap (a :: M)) a v → wpAny W.md A (storeName env x (.ref a)) (fun _ s'' => Q .next s'') E s') ∧
  (∀ a C s', Kept s s' → s.heap.get? a = none → s.heap.get? C = none → C ≠ a → (∃ m, s'.heap.Ns C m) → OwnAt W s'.heap (vis s'.heap (a :: C :: M)) a v →
    wpAny W.md A (storeName env x (.ref a)) (fun _ s'' => (∃ m, s''.heap.Ns C m) ∧ ∀ h', Heap.SameBut C s''.heap h' → Q .next { s'' with heap := h' }) E s')

noncomputable def FrSound (W : Wd) (hb : Heap) (n : Nat) (r : Rec) : Prop :=
  ∀ sc ρ e v, isFreshForm e = true → r.ev ⟨sc, none⟩ ρ e = some ⟨v, false⟩ → ∀ env M A s E x xp pos Q, AOk A n → Rd W hb ⟨sc, none⟩ env M ρ s.heap → StoreNew W A env M s x v Q E →
    wpAny W.md A (exec (.Assign [.Name x xp] e pos) env) Q E s

theorem setV_new (F : FrOk env sc) (T : St W hb env sc Mo ioL s0 om (Vof ρ) s) {x : Str} {v : AV} (e : setV sc ρ x (.own v) = some ρ') : StoreNew W A env (mm om env Mo) s x v (Post W hb env sc Mo ioL s0 om s .next ρ') E := by
  refine ⟨fun a s' k ha ho => ?_, fun a C s' k ha hC hne hns ho => ?_⟩
  · exact wpAny_mono (setV_own F T e k ha ho) (fun _ s'' h => .next h.1 h.2.1) fun _ _ q => q
  · have hCal : ∃ o, s'.heap.get? C = some o := by obtain ⟨m, o, _, _, h, _⟩ := hns; exact ⟨o, h⟩
    have hdm := dead_moves T.moves hC
    have hCio : C ∉ ioL := fun q => by
      obtain ⟨o, ho⟩ := T.bd C (List.mem_append_right _ (List.mem_append_right _ (T.ioB C q).2))
      rw [hC] at ho; (first | exact none_ne ho | obtain rfl := Option.some.inj ho | cases ho)
    have h0C : s0.heap.get? C = none := hdm.resolve_left hCio
    -- C is hidden before anything new
    have Th : St W hb env sc (C :: Mo) ioL s0 om (Vof ρ) s' := T.hide k hC hCal
    obtain ⟨hk, _, hρ⟩ := setV_spec e
    have T1 := (T.weak (V' := dropV (Vof ρ) x) dropV_le).rm (x := x) (fun v h => by unfold dropV at h; rw [if_pos rfl] at h; cases h)
    have T2 := (T1.own (x := x) k ha ho.there (fun v h => by unfold dropV at h; rw [if_pos rfl] at h; cases h))
    have T3 : St W hb env sc (C :: Mo) ioL s0 ((x, a) :: rmo om x) (dropV (Vof ρ) x) s' := by
      have g : ∀ b, b ∈ mm ((x, a) :: rmo om x) env (C :: Mo) → b ∈ mm ((x, a) :: rmo om x) env Mo ∨ b = C := fun b h => by
        rcases List.mem_append.mp h with h | h
        · exact .inl (List.mem_append_left _ h)
        · rcases List.mem_append.mp h with h | h
          · exact .inl (List.mem_append_right _ (List.mem_append_left _ h))
          · rcases List.mem_cons.mp h with h | h
            · exact .inr h
            · exact .inl (List.mem_append_right _ (List.mem_append_right _ h))
      have gg : GLe (vis s.heap (mm (rmo om x) env Mo)) (vis s'.heap (mm ((x, a) :: rmo om x) env (C :: Mo))) := gle_vis (fun b o _ e => k.get (by simp) e) fun b h => by
        rcases g b h with h | h
        · rcases List.mem_cons.mp h with rfl | h
          · exact .inr ha
          · exact .inl h
        · rw [h]; exact .inr hC
      refine { T2 with ioB := fun a h => ⟨(T.ioB a h).1, List.mem_cons_of_mem _ (T.ioB a h).2⟩, bd := fun b h => ?_, apart := fun b h q => ?_, vars := fun y w h1 h2 => ?_ }
      · rcases g b h with h | h
        · exact T2.bd b h
        · rw [h]; exact hCal
      · rcases List.mem_cons.mp q with q | q
        · subst q
          rcases List.mem_cons.mp h with h | h
          · exact hne h
          · have : b ∈ mm (rmo om x) env Mo := by
              rcases List.mem_append.mp h with h | h
              · exact List.mem_append_left _ h
              · exact List.mem_append_right _ (List.mem_append_left _ h)
            obtain ⟨o, ho'⟩ := T1.bd b this
            rw [hC] at ho'; cases ho'
        · exact T2.apart b h q
      · refine (T1.vars y w h1 h2).kept k.hle fun u h => ?_
        cases w with
        | frz w => exact Rp.mono gg h
        | own w =>
          obtain ⟨b, e', hl, o⟩ := h
          have hyx : (y == x) = false := by
            have : y ≠ x := fun q => by
              unfold dropV at h2
              rw [if_pos q] at h2; (first | exact none_ne h2 | obtain rfl := Option.some.inj h2 | cases h2)
            simpa using this
          exact ⟨b, e', by rw [List.lookup_cons, hyx]; exact hl, o.mono (fun _ q => k.get (by simp) q) gg⟩
        | io w => obtain ⟨b, e', hl, o⟩ := h; exact ⟨b, e', hl, o.mono (fun _ q => k.get (by simp) q) gg⟩
    refine wpAny_mono (T3.store F (v := .own v) hk ⟨a, rfl, by rw [List.lookup_cons]; simp, ho.mono (fun _ q => q) (gle_less fun b hb => ?_)⟩ (fun w q => by cases q)) (fun _ s'' h => ?_) fun _ _ q => q
    · rcases List.mem_cons.mp hb with rfl | q
      · exact List.mem_cons_self
      · refine List.mem_cons_of_mem _ ?_
        rcases List.mem_append.mp q with q | q
        · exact List.mem_cons_of_mem _ (List.mem_append_left _ (rmo_sub b q))
        · rcases List.mem_append.mp q with q | q
          · exact List.mem_cons_of_mem _ (List.mem_append_right _ (List.mem_append_left _ q))
          · rcases List.mem_cons.mp q with rfl | q
            · exact List.mem_cons_self
            · exact List.mem_cons_of_mem _ (List.mem_append_right _ (List.mem_append_right _ q))
    · rw [upd_drop, ← hρ] at h
      obtain ⟨m, hm⟩ := hns
      have hCF : C ∉ FM env := fun q => h.1.apart C (List.mem_append_right _ q) List.mem_cons_self
      have hm' : s''.heap.Ns C m := by obtain ⟨o, es, ep, h1, r⟩ := hm; exact ⟨o, es, ep, h.2.get hCF h1, r⟩
      refine ⟨⟨m, hm'⟩, fun h' hs => ?_⟩
      have k2 : Moves [C] s'' { s'' with heap := h' } := moves_but s''.toks hs
      have hCMo : C ∉ Mo := fun q => by
        obtain ⟨o, ho'⟩ := T.bd C (List.mem_append_right _ (List.mem_append_right _ q))
        rw [hC] at ho'; cases ho'
      refine ⟨_, trivial, h.1.forget k2 (fun b hb => (T.ioB b hb).2) hCMo h0C, ⟨?_, fun b hb => ?_⟩⟩
      · have m1 : Moves (mv om env ioL) s s'' := (Moves.of_kept k).trans (h.2.mono fun b hb => .inl (mv_frame b hb))
        exact m1.next k2 fun b hb => .inr (by simp at hb; rw [hb]; exact hC)
      · rcases List.mem_cons.mp hb with rfl | q
        · exact .inr ha
        · exact .inl (List.mem_append_left _ (rmo_sub b q))
end
end Mine

end

/-! part Stm5 -/
section
set_option maxRecDepth 10000
set_option autoImplicit false
set_option linter.unusedVariables false
namespace Mine
open PySem PySem.W PyProof.Rows

section
variable {W : Wd} {hb : Heap} {env : Env} {sc : Scope} {M : List Addr} {s : Shared} {A : Around} {E : Value → Shared → Prop} {ρ : R} {r : Rec} {n : Nat}

theorem swap_list {elt : PySem.Expr} {gens : List Comprehension} {cs : Scope} {p xp : Pos} {x : Str} {l : Nat} : ∃ b, swapsWith (.ListComp elt gens cs p) (some (.Name x xp)) l env = pure b := ⟨_, rfl⟩
theorem swap_dict {k v : PySem.Expr} {gens : List Comprehension} {cs : Scope} {p xp : Pos} {x : Str} {l : Nat} : ∃ b, swapsWith (.DictComp k v gens cs p) (some (.Name x xp)) l env = pure b := ⟨_, rfl⟩

theorem exec_used {value : PySem.Expr} {x : Str} {xp pos : Pos} {Q : Flow → Shared → Prop} (hs : swapsWith value (some (.Name x xp)) pos.line env = pure true)
    (h : wpAny W.md A (evalThenUse value env fun v => assign (.Name x xp) env v) (fun _ s' => Q .next s') E s) : wpAny W.md A (exec (.Assign [.Name x xp] value pos) env) Q E s := by
  rw [arm_exec_Assign]
  refine wpAny_bind (wpAny_standAt ?_)
  show wpAny _ _ (swapsWith value (some (.Name x xp)) pos.line env >>= _) _ _ _
  rw [hs]
  refine wpAny_bind (wpAny_pure ?_)
  rw [if_pos rfl]
  exact wpAny_bind (wpAny_mono h (fun _ s' h => wpAny_pure h) fun _ _ q => q)

theorem gle_drop {B C : Addr} {h h' : Heap} (hs : Heap.SameBut C h h') : GLe (vis h (B :: C :: M)) (vis h' (B :: M)) := fun a o e => by
  obtain ⟨h1, h2⟩ := vis_iff.mp e
  simp only [List.mem_cons, not_or] at h1
  exact vis_iff.mpr ⟨by simp only [List.mem_cons, not_or]; exact ⟨h1.1, h1.2.2⟩, hs.extBut a o h1.2.1 h2⟩

theorem fr_ok (G : Gl W hb) (S : EvSound W hb n r) (Ts : TsSound W hb n r) : FrSound W hb (n + 1) ⟨evA r theDefs, r.ts, r.ex, r.call⟩ := by
  intro sc ρ e v hf he env M A s E x xp pos Q ha' D hQ
  have ha := ha'.down
  have hsys : sysModules < s.heap.objs.size := by
    obtain ⟨o, ho⟩ := G.sys.2
    exact Nat.lt_of_le_of_lt (by decide) (Heap.lt_size (D.base _ _ ho))
  have frn : s.heap.get? s.heap.objs.size = none := get_new _
  induction e using PySem.Expr.casesOn with
  | ListComp elt gens cs p =>
    refine mpd he fun l hl h2 => ?_
    obtain rfl : .list l = v := congrArg AR.v h2
    obtain ⟨b, hb'⟩ := swap_list (env := env) (elt := elt) (gens := gens) (cs := cs) (p := p) (xp := xp) (x := x) (l := pos.line)
    cases b with
    | false =>
      refine wpAny_Assign_Name ?_ hb'
      rw [arm_eval_ListComp]
      refine list_comp (cx := ⟨sc, none⟩) S Ts G ha D hl fun B C s' m hn fC fB hBC k hBo hl' => ⟨m, hn, fun h' hs => ?_⟩
      obtain ⟨k', hBM, hB', g⟩ := comp_end D.bd fC fB hBC k hs
      obtain ⟨c, vs, ho, rl⟩ := hl'
      exact hQ.1 B _ k' fB ⟨c, vs, hB' _ ho, rl.mono (gle_drop hs)⟩
    | true =>
      refine exec_used hb' ?_
      show wpAny _ _ (do let _ ← comprehension (.ListComp elt gens cs p) cs env (firstIterPos gens p) (newList []) (firstAsync gens) (firstIter gens env) (some fun v => assign (.Name x xp) env v)) _ _ _
      refine wpAny_bind (list_comp (cx := ⟨sc, none⟩) S Ts G ha D hl fun B C s' m hn fC fB hBC k hBo hl' => ?_)
      refine wpAny_assign_Name (wpAny_mono (hQ.2 B C s' k fB fC hBC.symm ⟨m, hn⟩ hl') (fun _ s'' h => ?_) fun _ _ q => q)
      obtain ⟨⟨m', hm'⟩, h⟩ := h
      exact ⟨m', hm', fun h' hs => wpAny_pure (h h' hs)⟩
  | DictComp kk vv gens cs p =>
    refine mpd he fun l hl h2 => ?_
    obtain rfl : .dict (l.foldl (fun d p => put d p.1 p.2) []) = v := congrArg AR.v h2
    obtain ⟨b, hb'⟩ := swap_dict (env := env) (k := kk) (v := vv) (gens := gens) (cs := cs) (p := p) (xp := xp) (x := x) (l := pos.line)
    cases b with
    | false =>
      refine wpAny_Assign_Name ?_ hb'
      rw [arm_eval_DictComp]
      refine dict_comp (cx := ⟨sc, none⟩) S Ts G ha D hl fun B C s' m hn fC fB hBC k hBo hl' => ⟨m, hn, fun h' hs => ?_⟩
      obtain ⟨k', hBM, hB', g⟩ := comp_end D.bd fC fB hBC k hs
      exact hQ.1 B _ k' fB (DctAt.mono hl' hB' (gle_drop hs))
    | true =>
      refine exec_used hb' ?_
      show wpAny _ _ (do let _ ← comprehension (.DictComp kk vv gens cs p) cs env (firstIterPos gens p) newDict (firstAsync gens) (firstIter gens env) (some fun v => assign (.Name x xp) env v)) _ _ _
      refine wpAny_bind (dict_comp (cx := ⟨sc, none⟩) S Ts G ha D hl fun B C s' m hn fC fB hBC k hBo hl' => ?_)
      refine wpAny_assign_Name (wpAny_mono (hQ.2 B C s' k fB fC hBC.symm ⟨m, hn⟩ hl') (fun _ s'' h => ?_) fun _ _ q => q)
      obtain ⟨⟨m', hm'⟩, h⟩ := h
      exact ⟨m', hm', fun h' hs => wpAny_pure (h h' hs)⟩
  | Dict ks vs p =>
    obtain ⟨h1, h2⟩ := Bool.and_eq_true_iff.mp hf
    obtain rfl := isEmpty_inv h1
    obtain rfl := isEmpty_inv h2
    obtain rfl : .dict [] = v := congrArg AR.v (Option.some.inj he)
    refine wpAny_Assign_Name (wpAny_Dict_empty ?_) rfl
    refine hQ.1 _ _ (kept_push _) frn ⟨[], Heap.DictOf.new _, ?_, .nil⟩
    show decide _ = false
    exact decide_eq_false (Nat.ne_of_gt hsys)
  | List es p =>
    obtain rfl := isEmpty_inv hf
    obtain rfl : .list [] = v := congrArg AR.v (Option.some.inj he)
    refine wpAny_Assign_Name (List_ (Calls.spliced_nil (new_list ?_))) rfl
    exact hQ.1 _ _ (kept_push _) frn ⟨0, #[], Heap.get?_push_size _ rfl, .nil⟩
  | _ => cases hf
end
end Mine

end

/-! part Stm6 -/
section
set_option maxRecDepth 10000
set_option autoImplicit false
set_option linter.unusedVariables false
namespace Mine
open PySem PySem.W PyProof.Rows

section
variable {W : Wd} {hb : Heap} {env : Env} {sc : Scope} {Mo ioL : List Addr} {s0 s s' s'' : Shared} {om om' om'' : List (Str × Addr)} {A : Around} {E : Value → Shared → Prop} {ρ ρ' ρ1 : R} {r : Rec} {n : Nat}

theorem rpl_last {g : G} : ∀ {vs : List Value} {l : List AV} {a : AV}, RpL W g vs l → l.getLast? = some a → ∃ v, vs.getLast? = some v ∧ Rp W g v a ∧ RpL W g vs.dropLast l.dropLast
  | _, _, _, .nil, e => by cases e
  | _, _, _, .cons h1 .nil, e => by cases e; exact ⟨_, rfl, h1, .nil⟩
  | _, _, _, .cons h1 (.cons h2 h3), e => by
    obtain ⟨v, q1, q2, q3⟩ := rpl_last (.cons h2 h3) (by simpa [List.getLast?_cons_cons] using e)
    exact ⟨v, by simpa [List.getLast?_cons_cons] using q1, q2, by simpa using RpL.cons h1 q3⟩

theorem popA_spec {l l' : List AV} {v : AV} (e : popA l = some (v, l')) : l.getLast? = some v ∧ l' = l.dropLast := by
  refine mpd e fun w h1 h2 => ?_
  cases h2
  exact ⟨h1, rfl⟩

theorem kd_fun (F : FrOk env sc) : env.scope.kind = .function := by rw [F.scp]; exact F.knd

/-- x = h.pop() -/
theorem ex_pop (F : FrOk env sc) (ha : AOk A n) (T : St W hb env sc Mo ioL s0 om (Vof ρ) s) {x h : Str} {xp hp apos cp pos : Pos} {l l' : List AV} {v : AV} (hl : lineOk apos cp = true) (hk : kind ⟨sc, none⟩ h = some .var) (ho : ownOf ρ h = some (.list l))
    (hlen : l.length ≤ 4096) (e : popA l = some (v, l')) (es : setV sc (setOwn ρ h (.list l')) x (.frz v) = some ρ') :
    wpAny W.md A (exec (.Assign [.Name x xp] (.Call (.Attribute (.Name h hp) (sN "pop") apos) [] [] cp) pos) env) (Post W hb env sc Mo ioL s0 om s .next ρ') E s := by
  obtain ⟨a, hna, hmm, hmv, hhb, hFM, hown, hgo⟩ := T.upOwn hk ho
  obtain ⟨h1, rfl⟩ := popA_spec e
  obtain ⟨c, vs, hob, rl⟩ := hown
  obtain ⟨u, hu, ru, rd⟩ := rpl_last rl h1
  have hlen' := rl.length
  refine wpAny_Assign_Name (wpAny_Call_method_lateS rfl rfl hl (name_at (kd_fun F) hna (own_debug ho) fun w hw => ?_)) rfl
  subst hw
  refine ⟨"list", "list.pop", PySem.F.plainAttrs_list, PySem.F.slot_list_pop, PySem.F.type_list_pop, ⟨_, hob, rfl⟩, fun b hb' => by cases hb'; exact ⟨_, hob, rfl⟩, ?_⟩
  refine Calls.callWith_builtin rfl (evalArgs_nil3 ?_)
  refine pop_plain hob (by simpa using hu) (by simp at hlen'; exact line_le (by lia)) fun h' n' vs' hv' hd' hs => ?_
  have k : Moves [a] s { s with heap := h' } := moves_but s.toks hs
  have g : GLe (vis s.heap (mm om env Mo)) (vis h' (mm om env Mo)) := gle_moves k (by simpa using hmm)
  obtain ⟨T', k'⟩ := hgo _ (.list l.dropLast) k ⟨n', vs', hv', by rw [hd']; exact rd.mono g⟩
  exact wpAny_mono (setV_frz F T' es (ru.mono g)) (fun _ s2 h3 => .next h3.1 (k'.trans h3.2.1)) fun _ _ q => q

/-- h.append(e) -/
theorem ex_append (S : EvSound W hb n r) (F : FrOk env sc) (ha : AOk A n) (T : St W hb env sc Mo ioL s0 om (Vof ρ) s) {x : Str} {xp apos cp pos : Pos} {e : PySem.Expr} {l : List AV} {v : AV} (hl : lineOk apos cp = true) (hst : notStar e = true)
    (hk : kind ⟨sc, none⟩ x = some .var) (ev : r.ev ⟨sc, none⟩ (freeze ρ e) e = some ⟨v, false⟩) (ho : ownOf (freeze ρ e) x = some (.list l)) (hlen : l.length ≤ 4096) :
    wpAny W.md A (exec (.Expr (.Call (.Attribute (.Name x xp) (sN "append") apos) [e] [] cp) pos) env) (Post W hb env sc Mo ioL s0 om s .next (setOwn (freeze ρ e) x (.list (l ++ [v])))) E s := by
  obtain ⟨om1, T1, k1⟩ := freeze_ok T e
  obtain ⟨a, hna, hmm, hmv, hhb, hFM, hown, hgo⟩ := T1.upOwn hk ho
  have hint : interactive env = false := by unfold interactive; rw [kd_fun F]; rfl
  obtain ⟨c, vs, hob, rl⟩ := hown
  refine wpAny_Expr (Call_method1 rfl (starEach_cons hst) hl (name_at (kd_fun F) hna (own_debug ho) fun w hw => ?_)) hint rfl
  subst hw
  refine ⟨"list", "list.append", PySem.F.plainAttrs_list, PySem.F.slot_list_append, PySem.F.type_list_append, ⟨_, hob, rfl⟩, fun b hb' => by cases hb'; exact ⟨_, hob, rfl⟩, ?_⟩
  refine Calls.callWith_builtin rfl (Calls.evalArgs_plain (Calls.spliced_cons (wpAny_mono (S _ _ _ _ ev env _ A s E ha (T1.rd F)) (fun u s1 h1 => ?_) fun _ _ q => q)))
  refine Calls.spliced_nil ?_
  obtain ⟨kk, ru⟩ := h1
  have hob1 := kk.get (m := []) (by simp) hob
  have rl1 := rl.mono (gle_kept (M := mm om1 env Mo) kk)
  have hlen' := rl.length
  refine wpAny_list_append_plain ⟨c, hob1⟩ (fun h' hp hs => ?_) (by simp at hlen'; exact line_le (by lia))
  have k : Moves [a] s1 { s1 with heap := h' } := moves_but s1.toks hs
  have g : GLe (vis s1.heap (mm om1 env Mo)) (vis h' (mm om1 env Mo)) := gle_moves k (by simpa using hmm)
  obtain ⟨n', hn'⟩ := hp
  obtain ⟨T', k'⟩ := hgo _ (.list (l ++ [v])) ((Moves.of_kept kk).trans k) ⟨n', vs.push u, hn', by rw [Array.toList_push]; exact (rl1.mono g).snoc (Rp.mono g ru)⟩
  exact .next T' (k1.trans k')

/-- an item is stored -/
theorem store_ok {a : Addr} {c i v c' : AV} {vi vv : Value} {oi : Bool} {M : List Addr} (e : storeA c i v = some c') (hown : OwnAt W s.heap (vis s.heap M) a c) (ri : ARel W s.heap M vi ⟨i, oi⟩) (rv : Rp W (vis s.heap M) vv v) (ham : a ∈ M) {Q : Unit → Shared → Prop}
    (hQ : ∀ s', Moves [a] s s' → OwnAt W s'.heap (vis s'.heap M) a c' → Q () s') : wpAny W.md A (setItem (.ref a) vi vv) Q E s := by
  induction c using AV.casesOn with
  | list l =>
    · refine bnd e fun k h1 e => ifs e fun hk e => ?_
      obtain rfl := Option.some.inj e
      obtain ⟨t, rfl⟩ := ri.int' h1
      obtain ⟨c, vs, ho, rl⟩ := hown
      have h0 := small_spec hk.1
      have hlen := rl.length
      refine setItem_plain ho h0.1 (by lia) (by simp at hlen; lia) fun h' n' hn' hs => ?_
      have k : Moves [a] s { s with heap := h' } := moves_but s.toks hs
      have g := gle_moves k (M := M) (by simpa using ham)
      exact hQ _ k ⟨n', _, hn', by rw [Array.toList_setIfInBounds]; exact (rl.mono g).set _ (rv.mono g)⟩
  | dict d =>
    · refine bnd e fun k h1 e => ifs e fun hk e => ?_
      obtain rfl := Option.some.inj e
      obtain ⟨t, rfl⟩ := ri.str' h1
      obtain ⟨kvs, hd, hsm, rl⟩ := hown
      have hlen := rl.length
      have hnd : (kvs.map (·.1)).Nodup := by obtain ⟨_, _, _, _, _, _, _, _, q⟩ := hd; exact q
      refine wpAny_setItem_pairs (knd := W.kd) (strKind_is _ _ k t) hd (fun h' hd' hs => ?_) (line_le (by lia))
      have k : Moves [a] s { s with heap := h', toks := s.toks + 1 } := moves_but _ hs
      have g := gle_moves k (M := M) (by simpa using ham)
      exact hQ _ k ⟨_, hd', hsm, RpD.put (rl.mono g) hnd (rv.mono g)⟩
  | _ => exact none_ne e

theorem ex_store (S : EvSound W hb n r) (F : FrOk env sc) (ha : AOk A n) (T : St W hb env sc Mo ioL s0 om (Vof ρ) s) {x : Str} {xp sp pos : Pos} {i value : PySem.Expr} {c c' v iv : AV} {oi : Bool}
    (hk : kind ⟨sc, none⟩ x = some .var) (ev : r.ev ⟨sc, none⟩ (freeze ρ value) value = some ⟨v, false⟩) (ei : r.ev ⟨sc, none⟩ (freeze ρ value) i = some ⟨iv, oi⟩) (ho : ownOf (freeze ρ value) x = some c) (e : storeA c iv v = some c') :
    wpAny W.md A (exec (.Assign [.Subscript (.Name x xp) i sp] value pos) env) (Post W hb env sc Mo ioL s0 om s .next (setOwn (freeze ρ value) x c')) E s := by
  obtain ⟨om1, T1, k1⟩ := freeze_ok T value
  obtain ⟨a, hna, hmm, hmv, hhb, hFM, hown, hgo⟩ := T1.upOwn hk ho
  refine wpAny_Assign_Subscript (wpAny_mono (S _ _ _ _ ev env _ A s E ha (T1.rd F)) (fun u s1 h1 => ?_) fun _ _ q => q) (by cases value <;> rfl)
  obtain ⟨kk, ru⟩ := h1
  have D1 := (T1.rd F).kept kk
  refine name_at (kd_fun F) (hna.kept kk.hle fun _ q => q) (own_debug ho) fun w hw => ?_
  subst hw
  refine wpAny_mono (S _ _ _ _ ei env _ A s1 E ha D1) (fun w s2 h2 => ?_) fun _ _ q => q
  obtain ⟨kk2, ri⟩ := h2
  have k02 := kk.trans kk2
  refine store_ok e (hown.mono (fun _ q => k02.get (by simp) q) (gle_kept k02)) ri (rp_kept ru kk2) hmm fun s3 m3 o3 => ?_
  obtain ⟨T', k'⟩ := hgo s3 c' ((Moves.of_kept k02).trans m3) o3
  exact .next T' (k1.trans k')

/-- x += e -/
theorem ex_aug (S : EvSound W hb n r) (F : FrOk env sc) (ha : AOk A n) (T : St W hb env sc Mo ioL s0 om (Vof ρ) s) {x : Str} {xp pos : Pos} {value : PySem.Expr} {a b : Int} {o : Bool}
    (hk : kind ⟨sc, none⟩ x = some .var) (hx : ρ.vars.lookup x = some (.frz (.int a))) (ev : r.ev ⟨sc, none⟩ ρ value = some ⟨.int b, o⟩) (es : setV sc ρ x (.frz (.int (a + b))) = some ρ') :
    wpAny W.md A (exec (.AugAssign (.Name x xp) .Add value pos) env) (Post W hb env sc Mo ioL s0 om s .next ρ') E s := by
  obtain ⟨u, hu, q⟩ := T.vars x _ hk hx
  have hu' : Rp W (vis s.heap (mm om env Mo)) u (.int a) := hu
  obtain ⟨t, rfl⟩ : ∃ t, u = .int a t := by cases hu'; exact ⟨_, rfl⟩
  have load : ∀ {Q : Value → Shared → Prop} {E : Value → Shared → Prop}, Q (.int a t) s → wpAny W.md A (loadName env x) Q E s := fun {Q E} h => by
    rcases q with ⟨e1, m, hm, h1⟩ | ⟨e1, c, hc, h1⟩
    · exact wpAny_loadName_local (kd_fun F) e1 hm h1 h
    · exact wpAny_loadName_cell (kd_fun F) e1 hc h1 h
  refine wpAny_AugAssign_Name (load (wpAny_mono (S _ _ _ _ ev env _ A s E ha (T.rd F)) (fun w s1 h1 => ?_) fun _ _ q => q))
  obtain ⟨kk, rw1⟩ := h1
  obtain ⟨t2, rfl⟩ := rw1.int
  refine P.iadd_int ?_
  have k2 : Kept s { s1 with toks := s1.toks + 1 } := kk.trans (kept_toks _)
  exact wpAny_mono (setV_frz F (T.kept k2) es (show Rp W _ _ _ from .int _ _)) (fun _ s2 h3 => .next h3.1 ((Step.kept k2).trans h3.2.1)) fun _ _ q => q

/-- d[k] += e -/
theorem ex_augsub (S : EvSound W hb n r) (F : FrOk env sc) (ha : AOk A n) (T : St W hb env sc Mo ioL s0 om (Vof ρ) s) {x k : Str} {xp sp pos : Pos} {i value : PySem.Expr} {d : List (Str × AV)} {a b : Int} {o oi : Bool} (hi : isSlice i = false)
    (hk : kind ⟨sc, none⟩ x = some .var) (ho : ownOf ρ x = some (.dict d)) (ei : r.ev ⟨sc, none⟩ ρ i = some ⟨.str k, oi⟩) (ev : r.ev ⟨sc, none⟩ ρ value = some ⟨.int b, o⟩) (hd : d.lookup k = some (.int a)) (hlen : d.length ≤ 4096) :
    wpAny W.md A (exec (.AugAssign (.Subscript (.Name x xp) i sp) .Add value pos) env) (Post W hb env sc Mo ioL s0 om s .next (setOwn ρ x (.dict (put d k (.int (a + b)))))) E s := by
  obtain ⟨ad, hna, hmm, hmv, hhb, hFM, hown, hgo⟩ := T.upOwn hk ho
  have D := T.rd F
  refine wpAny_AugAssign_SubscriptAny (name_at (kd_fun F) hna (own_debug ho) fun w hw => ?_) ?_
  · subst hw
    refine wpAny_mono (S _ _ _ _ ei env _ A s E ha D) (fun vi s1 h1 => ?_) fun _ _ q => q
    obtain ⟨k1, ri⟩ := h1
    have own1 : ARel W s1.heap (mm om env Mo) (.ref ad) ⟨.dict d, true⟩ := ⟨ad, rfl, hmm, hown.mono (fun _ q => k1.get (by simp) q) (gle_kept k1)⟩
    obtain ⟨_, _, _, _, hg⟩ := indexA_ok (W := W) (A := A) (E := E) (a := ⟨.dict d, true⟩) (b := ⟨.str k, oi⟩) (c := .int a) hd own1 ri
    refine wpAny_mono hg (fun old s2 h2 => ?_) fun _ _ q => q
    obtain ⟨k2, ro⟩ := h2
    obtain ⟨t, rfl⟩ : ∃ t, old = .int a t := by cases ro; exact ⟨_, rfl⟩
    have D2 := (D.kept k1).kept k2
    refine wpAny_mono (S _ _ _ _ ev env _ A s2 E ha D2) (fun w s3 h3 => ?_) fun _ _ q => q
    obtain ⟨k3, rw3⟩ := h3
    obtain ⟨t2, rfl⟩ := rw3.int
    refine P.iadd_int ?_
    have k03 : Kept s { s3 with toks := s3.toks + 1 } := ((k1.trans k2).trans k3).trans (kept_toks _)
    have k13 : Kept s1 { s3 with toks := s3.toks + 1 } := (k2.trans k3).trans (kept_toks _)
    refine store_ok (c := .dict d) (i := .str k) (v := .int (a + b)) (c' := .dict (put d k (.int (a + b)))) (ifsI (o := some _) hlen rfl) (hown.mono (fun _ q => k03.get (by simp) q) (gle_kept k03)) (ri.kept k13) (show Rp W _ _ _ from .int _ _) hmm fun s4 m4 o4 => ?_
    obtain ⟨T', k'⟩ := hgo s4 _ ((Moves.of_kept k03).trans m4) o4
    exact .next T' k'
  · intro ov iv new
    cases i <;> first | rfl | cases hi
end
end Mine

end

/-! part Iter2 -/
section
set_option maxRecDepth 10000
set_option autoImplicit false
set_option linter.unusedVariables false
namespace Mine
open PySem PySem.W PyProof.Rows

/-! iterators of loops: what they read stands in g1 -/

structure ItF (W : Wd) (A : Around) (g1 : G) (I : Addr) (tg : PySem.Expr) (l : List AV) (S : Nat → Heap → Prop) : Prop where
  alive : ∀ i h, S i h → ∃ o, h.get? I = some o
  keep : ∀ i h h', S i h → (∀ o, h.get? I = some o → h'.get? I = some o) → GLe g1 h'.get? → S i h'
  turn : ∀ i a (s : Shared) (Q : Value → Shared → Prop) (E : Value → Shared → Prop), l[i]? = some a → S i s.heap → GLe g1 s.heap.get? →
    (∀ v s2, Moves [I] s s2 → S (i + 1) s2.heap → (∀ N, Bd N s.heap → (∀ b ∈ N, g1 b = none) → Rp W (vis s2.heap N) v a) → Q v s2) →
    wpAny W.md A (pyNext (.ref I)) (fun r s1 => ∃ v, r = some v ∧ wpAny W.md A (letOwnedTupleGo tg (.ref I) v) (fun _ s2 => Q v s2) E s1) E s
  done : ∀ (s : Shared) (Q : Option Value → Shared → Prop) (E : Value → Shared → Prop), S l.length s.heap → GLe g1 s.heap.get? → (∀ s', Moves [I] s s' → Q none s') → wpAny W.md A (pyNext (.ref I)) Q E s

section
variable {W : Wd} {A : Around} {E : Value → Shared → Prop} {s : Shared} {g1 : G} {I : Addr} {tg : PySem.Expr}

theorem gle_I {s s2 : Shared} (hI : g1 I = none) (h : GLe g1 s.heap.get?) (k : Moves [I] s s2) : GLe g1 s2.heap.get? := fun a o e => k.get (by simp; rintro rfl; rw [hI] at e; cases e) (h a o e)
theorem gle_N {h : Heap} {N : List Addr} (g : GLe g1 h.get?) (hN : ∀ b ∈ N, g1 b = none) : GLe g1 (vis h N) := fun a o e => by
  refine vis_iff.mpr ⟨fun q => ?_, g a o e⟩
  rw [hN a q] at e
  (first | exact none_ne e | obtain rfl := Option.some.inj e | cases e)

theorem itf_list (hh : A.handled = none) {ax : Addr} {vs : Array Value} {n : Nat} {l : List AV} (hI : g1 I = none) (hx : g1 ax = some { cls := .type "list", data := .seq vs n }) (r : RpL W g1 vs.toList l) :
    ItF W A g1 I tg l (fun i h => h.IsListIter I ax i ∧ GLe g1 h.get?) where
  alive := fun i h st => let ⟨o, ho, _⟩ := st.1; ⟨o, ho⟩
  keep := fun i h h' st k g => ⟨st.1.at k, g⟩
  turn := fun i a s Q E ha st g hQ => by
    obtain ⟨v, hv, rv⟩ := r.get ha
    have hl : s.heap.IsList ax vs := ⟨_, g _ _ hx, rfl, _, rfl⟩
    refine wpAny_pyNext_list_item st.1 hl (x := v) (by simpa using hv) fun h' hit' hs' => ⟨v, rfl, ?_⟩
    have mv : Moves [I] s { s with heap := h' } := moves_same (t := s.toks) hs'.extBut
    have g' := gle_I hI g mv
    obtain ⟨o, ho, hc, hd⟩ := id hit'
    exact letGo_plain ho hc hd (by decide) (hQ v _ mv ⟨hit', g'⟩ fun N _ hN => rv.mono (gle_N g' hN))
  done := fun s Q E st g hQ => by
    have z := r.length
    have hl : s.heap.IsList ax vs := ⟨_, g _ _ hx, rfl, _, rfl⟩
    exact wpAny_pyNext_list_end hh st.1 hl (by simp; simp at z; lia) fun h' he' => hQ _ (moves_same (t := s.toks) he')

theorem itf_tup (hh : A.handled = none) {ax : Addr} {vs : Array Value} {n : Nat} {l : List AV} (hI : g1 I = none) (hx : g1 ax = some { cls := .type "tuple", data := .seq vs n }) (r : RpL W g1 vs.toList l) :
    ItF W A g1 I tg l (fun i h => h.IsTupleIter I ax i ∧ GLe g1 h.get?) where
  alive := fun i h st => let ⟨o, ho, _⟩ := st.1; ⟨o, ho⟩
  keep := fun i h h' st k g => ⟨st.1.at k, g⟩
  turn := fun i a s Q E ha st g hQ => by
    obtain ⟨v, hv, rv⟩ := r.get ha
    have hl : s.heap.IsTuple ax vs := ⟨_, g _ _ hx, rfl, _, rfl⟩
    refine wpAny_pyNext_tuple_item st.1 hl (x := v) (by simpa using hv) fun h' hit' hs' => ⟨v, rfl, ?_⟩
    have mv : Moves [I] s { s with heap := h' } := moves_same (t := s.toks) hs'.extBut
    have g' := gle_I hI g mv
    obtain ⟨o, ho, hc, hd⟩ := id hit'
    exact letGo_plain ho hc hd (by decide) (hQ v _ mv ⟨hit', g'⟩ fun N _ hN => rv.mono (gle_N g' hN))
  done := fun s Q E st g hQ => by
    have z := r.length
    have hl : s.heap.IsTuple ax vs := ⟨_, g _ _ hx, rfl, _, rfl⟩
    exact wpAny_pyNext_tuple_end hh st.1 hl (by simp; simp at z; lia) fun h' he' => hQ _ (moves_same (t := s.toks) he')

theorem itf_str (hh : A.handled = none) {x : Str} {t : Tok} : ItF W A g1 I tg (chars x) (fun i h => h.IsStrIter I "str_ascii_iterator" x t i) where
  alive := fun i h st => let ⟨o, ho, _⟩ := st; ⟨o, ho⟩
  keep := fun i h h' st k g => Heap.IsStrIter.at' st k
  turn := fun i a s Q E ha st g hQ => by
    have : ∃ c, x.cps[i]? = some c ∧ a = .str ⟨#[c]⟩ := by
      unfold chars at ha
      rw [List.getElem?_map] at ha
      obtain ⟨c, hc, rfl⟩ := Option.map_eq_some_iff.mp ha
      exact ⟨c, by simpa using hc, rfl⟩
    obtain ⟨c, hc, rfl⟩ := this
    refine wpAny_pyNext_ascii_item st hc fun h' hit' hs' => ⟨_, rfl, ?_⟩
    have mv : Moves [I] s { s with heap := h', toks := s.toks + 1 } := moves_same hs'.extBut
    obtain ⟨o, ho, hcl, hd⟩ := id hit'
    exact letGo_plain ho hcl hd (by decide) (hQ _ _ mv hit' fun N _ _ => .str _ _)
  done := fun s Q E st g hQ => by
    refine wpAny_pyNext_ascii_end hh st ?_ fun h' he' => hQ _ (moves_same (t := s.toks) he')
    simp [chars]

theorem itf_range (hh : A.handled = none) {x0 c : Int} {n : Nat} : ItF W A g1 I tg ((List.range n).map fun i => .int (x0 + (i : Nat) * c)) (fun i h => IsRangeIter h I (x0 + (i : Nat) * c) ((n : Int) - (i : Nat)) c) where
  alive := fun i h st => ⟨_, st⟩
  keep := fun i h h' st k g => k _ st
  turn := fun i a s Q E ha st g hQ => by
    have : i < n ∧ a = .int (x0 + (i : Nat) * c) := by
      rw [List.getElem?_map] at ha
      obtain ⟨j, hj, rfl⟩ := Option.map_eq_some_iff.mp ha
      obtain ⟨h1, h2⟩ := List.getElem?_eq_some_iff.mp hj
      simp at h1 h2
      subst h2
      exact ⟨h1, rfl⟩
    obtain ⟨hi, rfl⟩ := this
    refine wpAny_pyNext_range_item st (by lia) fun h' hit' hs' => ⟨_, rfl, ?_⟩
    have mv : Moves [I] s { s with heap := h', toks := s.toks + 1 } := moves_same hs'.extBut
    have e1 : x0 + ((i + 1 : Nat) : Int) * c = x0 + (i : Int) * c + c := by push_cast; rw [Int.add_mul, Int.one_mul, Int.add_assoc]
    have e2 : (n : Int) - ((i + 1 : Nat) : Int) = (n : Int) - (i : Int) - 1 := by push_cast; lia
    refine letGo_plain hit' rfl rfl (by decide) (hQ _ _ mv ?_ fun N _ _ => .int _ _)
    show IsRangeIter h' I _ _ c
    rw [e1, e2]; exact hit'
  done := fun s Q E st g hQ => by
    refine wpAny_pyNext_range_end hh st (by simp) fun h' he' => hQ _ (moves_same (t := s.toks) he')

theorem itf_keys (hh : A.handled = none) {d : Addr} {od : Obj} {kvs : List (Str × Value)} {ep : Nat} {l : List (Str × AV)} (hI : g1 I = none) (hx : g1 d = some od) (hda : ∀ h : Heap, h.get? d = some od → h.DictAt W.kd d kvs ep) (r : RpD W g1 kvs l) :
    ItF W A g1 I tg (l.map fun p => .str p.1) (fun i h => h.IsKeyIter I d i kvs.length ep ∧ GLe g1 h.get?) where
  alive := fun i h st => let ⟨o, ho, _⟩ := st.1; ⟨o, ho⟩
  keep := fun i h h' st k g => ⟨st.1.at k, g⟩
  turn := fun i a s Q E ha st g hQ => by
    have : ∃ k v, kvs[i]? = some (k, v) ∧ a = .str k := by
      have hk := r.keys
      rw [List.getElem?_map] at ha
      obtain ⟨p, hp, rfl⟩ := Option.map_eq_some_iff.mp ha
      have h1 : (l.map (·.1))[i]? = some p.1 := by rw [List.getElem?_map, hp]; rfl
      rw [← hk, List.getElem?_map] at h1
      obtain ⟨q, hq, e⟩ := Option.map_eq_some_iff.mp h1
      exact ⟨q.1, q.2, hq, by rw [← e]⟩
    obtain ⟨k, v, hkv, rfl⟩ := this
    refine wpAny_pyNext_dict_item (knd := W.kd) st.1 (hda _ (g _ _ hx)) hkv fun key h' hkey hit' hs' => ?_
    obtain ⟨t, rfl⟩ := Value.isStrOf_shape hkey
    refine ⟨_, rfl, ?_⟩
    have mv : Moves [I] s { s with heap := h' } := moves_same (t := s.toks) hs'.extBut
    obtain ⟨o, ho, hc, hd⟩ := id hit'
    exact letGo_plain ho hc hd (by decide) (hQ _ _ mv ⟨hit', gle_I hI g mv⟩ fun N _ _ => .str _ _)
  done := fun s Q E st g hQ => by
    have z := r.length
    exact wpAny_pyNext_dict_end (knd := W.kd) hh st.1 (hda _ (g _ _ hx)) (by simp; lia) fun h' he' => hQ _ (moves_same (t := s.toks) he')

theorem itf_vals (hh : A.handled = none) {d : Addr} {od : Obj} {kvs : List (Str × Value)} {ep : Nat} {l : List (Str × AV)} (hI : g1 I = none) (hx : g1 d = some od) (hda : ∀ h : Heap, h.get? d = some od → h.DictAt W.kd d kvs ep) (r : RpD W g1 kvs l) :
    ItF W A g1 I tg (l.map (·.2)) (fun i h => h.IsValIter I d i kvs.length ep ∧ GLe g1 h.get?) where
  alive := fun i h st => let ⟨o, ho, _⟩ := st.1; ⟨o, ho⟩
  keep := fun i h h' st k g => ⟨st.1.at k, g⟩
  turn := fun i a s Q E ha st g hQ => by
    obtain ⟨v, hv, rv⟩ := r.vals.get ha
    rw [List.getElem?_map] at hv
    obtain ⟨⟨k, v'⟩, hkv, e⟩ := Option.map_eq_some_iff.mp hv
    (first | exact none_ne e | obtain rfl := Option.some.inj e | cases e)
    refine wpAny_pyNext_values_item (knd := W.kd) st.1 (hda _ (g _ _ hx)) hkv fun h' hit' hs' => ⟨_, rfl, ?_⟩
    have mv : Moves [I] s { s with heap := h' } := moves_same (t := s.toks) hs'.extBut
    have g' := gle_I hI g mv
    obtain ⟨o, ho, hc, hd⟩ := id hit'
    exact letGo_plain ho hc hd (by decide) (hQ _ _ mv ⟨hit', g'⟩ fun N _ hN => rv.mono (gle_N g' hN))
  done := fun s Q E st g hQ => by
    have z := r.length
    exact wpAny_pyNext_values_end (knd := W.kd) hh st.1 (hda _ (g _ _ hx)) (by simp; lia) fun h' he' => hQ _ (moves_same (t := s.toks) he')

theorem itf_items (hh : A.handled = none) {d : Addr} {od : Obj} {kvs : List (Str × Value)} {ep : Nat} {l : List (Str × AV)} (hI : g1 I = none) (hx : g1 d = some od) (hda : ∀ h : Heap, h.get? d = some od → h.DictAt W.kd d kvs ep) (r : RpD W g1 kvs l) (ht : isTupT tg = true) :
    ItF W A g1 I tg (l.map fun p => .tup [.str p.1, p.2]) (fun i h => (∃ ok ov, IsItemIter h I d i kvs.length ep ok ov) ∧ GLe g1 h.get?) where
  alive := fun i h st => let ⟨ok, ov, e⟩ := st.1; ⟨_, e⟩
  keep := fun i h h' st k g => ⟨let ⟨ok, ov, e⟩ := st.1; ⟨ok, ov, k _ e⟩, g⟩
  turn := fun i a s Q E ha st g hQ => by
    obtain ⟨⟨ok, ov, hit⟩, _⟩ := st
    rw [List.getElem?_map] at ha
    obtain ⟨⟨k, b⟩, hp, rfl⟩ := Option.map_eq_some_iff.mp ha
    obtain ⟨v, hv, rv⟩ := rpd_get r hp
    refine wpAny_pyNext_items_item (knd := W.kd) hit (hda _ (g _ _ hx)) hv fun key h' hkey hout hT hsz hk => ?_
    obtain ⟨t, rfl⟩ := Value.isStrOf_shape hkey
    refine ⟨_, rfl, ?_⟩
    have hTI : s.heap.objs.size ≠ I := Nat.ne_of_gt (Heap.lt_size hit)
    cases tg with
    | Tuple elts k2 pos =>
      refine wpAny_letOwnedTupleGo_items hout fun h2 hit2 hs2 => ?_
      have mv : Moves [I] s { s with heap := h2 } := moves_same (t := s.toks) fun b o hb e => hs2.extBut b o hb (hk b o hb e)
      have g' := gle_I hI g mv
      refine hQ _ _ mv ⟨⟨_, _, hit2⟩, g'⟩ fun N hbd hN => .tup (vs := #[.str k t, v]) (n := 0) ?_ ?_
      · exact vis_iff.mpr ⟨fun q => hbd.new q, hs2.extBut _ _ hTI hT⟩
      · exact .cons (.str _ _) (.cons (rv.mono (gle_N g' hN)) .nil)
    | _ => simp [isTupT] at ht
  done := fun s Q E st g hQ => by
    obtain ⟨⟨ok, ov, hit⟩, _⟩ := st
    have z := r.length
    rw [List.length_map, ← z] at hit
    exact wpAny_pyNext_items_end (knd := W.kd) hh hit (hda _ (g _ _ hx)) (by simp) fun h' he' => hQ _ (moves_same (t := s.toks) he')

theorem dictAt_of {o : Obj} {kvs : List (Str × Value)} (h2 : o.IsDictOf W.kd kvs) : ∃ ep, ∀ (a : Addr) (h : Heap), h.get? a = some o → h.DictAt W.kd a kvs ep :=
  let ⟨es, ep, rest⟩ := h2; ⟨ep, fun a h q => ⟨o, es, q, rest⟩⟩

noncomputable def ItersF (W : Wd) (g1 : G) (tg : PySem.Expr) (l : List AV) (s : Shared) : Value → Shared → Prop := fun it s' =>
  ∃ I S, it = .ref I ∧ s.heap.get? I = none ∧ Kept s s' ∧ (∃ o, s'.heap.get? I = some o) ∧ (∀ A' : Around, A'.handled = none → ItF W A' g1 I tg l S) ∧ S 0 s'.heap

theorem itf_ok {v : Value} {src : AV} {l : List AV} (g : GLe g1 s.heap.get?) (r : Rp W g1 v src) (e : iterA tg src = some l) : wpAny W.md A (pyIter v) (ItersF W g1 tg l s) E s := by
  have hn : g1 s.heap.objs.size = none := by
    cases q : g1 s.heap.objs.size with
    | none => rfl
    | some o => have := g _ _ q; rw [get_new] at this; cases this
  have gp : ∀ o : Obj, GLe g1 (s.heap.push o).get? := fun o a x q => Heap.get?_push_of_some _ (g a x q)
  cases r with
  | list h1 h2 =>
    simp only [iterA, Option.some.injEq] at e; subst e
    have hl : s.heap.IsList _ _ := ⟨_, g _ _ h1, rfl, _, rfl⟩
    exact wpAny_pyIter_list hl ⟨_, _, rfl, get_new _, kept_push _, ⟨_, Heap.get?_push_size _ rfl⟩, fun A' hh => itf_list hh hn h1 h2, ⟨_, Heap.get?_push_size _ rfl, rfl, rfl⟩, gp _⟩
  | tup h1 h2 =>
    simp only [iterA, Option.some.injEq] at e; subst e
    have hl : s.heap.IsTuple _ _ := ⟨_, g _ _ h1, rfl, _, rfl⟩
    exact wpAny_pyIter_tuple hl ⟨_, _, rfl, get_new _, kept_push _, ⟨_, Heap.get?_push_size _ rfl⟩, fun A' hh => itf_tup hh hn h1 h2, ⟨_, Heap.get?_push_size _ rfl, rfl, rfl⟩, gp _⟩
  | str x t =>
    simp only [iterA] at e
    split at e
    · rename_i ha; (first | exact none_ne e | obtain rfl := Option.some.inj e | cases e)
      exact wpAny_pyIter_ascii ha ⟨_, _, rfl, get_new _, kept_push _, ⟨_, Heap.get?_push_size _ rfl⟩, fun A' hh => itf_str hh, ⟨_, Heap.get?_push_size _ rfl, rfl, rfl⟩⟩
    · (first | exact none_ne e | obtain rfl := Option.some.inj e | cases e)
  | dict h1 h2 h3 h4 =>
    simp only [iterA, Option.some.injEq] at e; subst e
    obtain ⟨ep, hd0⟩ := dictAt_of h2
    exact wpAny_pyIter_dict (knd := W.kd) h3 (hd0 _ _ (g _ _ h1)) ⟨_, _, rfl, get_new _, kept_push _, ⟨_, Heap.get?_push_size _ rfl⟩, fun A' hh => itf_keys hh hn h1 (hd0 _) h4, ⟨_, Heap.get?_push_size _ rfl, rfl, rfl⟩, gp _⟩
  | rng h1 =>
    simp only [iterA] at e
    split at e
    · rename_i hs; (first | exact none_ne e | obtain rfl := Option.some.inj e | cases e)
      have h0 := small_spec hs
      refine wpAny_pyIter_range (g _ _ h1) (small_range hs) ?_
      rename_i n _ _ _
      have e1 : ((List.range n.toNat).map fun i => AV.int (i : Nat)) = (List.range n.toNat).map fun i => .int (0 + (i : Nat) * 1) := by
        apply List.map_congr_left; intro i _; simp
      rw [e1]
      refine ⟨_, _, rfl, get_new _, kept_push _, ⟨_, Heap.get?_push_size _ rfl⟩, fun A' hh => itf_range (x0 := 0) (c := 1) (n := n.toNat) hh, ?_⟩
      show IsRangeIter _ _ _ _ _
      rw [rangeSize_of h0.1]
      simp only [Int.natCast_zero, Int.zero_mul, Int.add_zero, Int.sub_zero]
      rw [Int.toNat_of_nonneg h0.1]
      exact Heap.get?_push_size _ rfl
    · (first | exact none_ne e | obtain rfl := Option.some.inj e | cases e)
  | items h1 h2 h3 h4 =>
    simp only [iterA] at e
    split at e
    · rename_i ht; (first | exact none_ne e | obtain rfl := Option.some.inj e | cases e)
      cases h4 with
      | dict g1' g2 g3 g4 =>
        obtain ⟨ep, hd0⟩ := dictAt_of g2
        exact wpAny_pyIter_items (knd := W.kd) ⟨_, g _ _ h1, h2, h3⟩ (hd0 _ _ (g _ _ g1')) ⟨_, _, rfl, get_new _, kept_push _, ⟨_, Heap.get?_push_size _ rfl⟩, fun A' hh => itf_items hh hn g1' (hd0 _) g4 ht, ⟨_, _, Heap.get?_push_size _ rfl⟩, gp _⟩
    · (first | exact none_ne e | obtain rfl := Option.some.inj e | cases e)
  | values h1 h2 h3 h4 =>
    simp only [iterA, Option.some.injEq] at e; subst e
    cases h4 with
    | dict g1' g2 g3 g4 =>
      obtain ⟨ep, hd0⟩ := dictAt_of g2
      exact wpAny_pyIter_values (knd := W.kd) ⟨_, g _ _ h1, h2, h3⟩ (hd0 _ _ (g _ _ g1')) ⟨_, _, rfl, get_new _, kept_push _, ⟨_, Heap.get?_push_size _ rfl⟩, fun A' hh => itf_vals hh hn g1' (hd0 _) g4, ⟨_, Heap.get?_push_size _ rfl, rfl, rfl⟩, gp _⟩
  | none => simp [iterA] at e
  | bool => simp [iterA] at e
  | int => simp [iterA] at e
  | inst => simp [iterA] at e
end
end Mine

end

/-! part Stm7 -/
section
set_option maxRecDepth 10000
set_option autoImplicit false
set_option linter.unusedVariables false
namespace Mine
open PySem PySem.W PyProof.Rows

section
variable {W : Wd} {hb : Heap} {env : Env} {sc : Scope} {Mo ioL : List Addr} {s0 s s' s'' : Shared} {om om' om'' : List (Str × Addr)} {A : Around} {E : Value → Shared → Prop} {ρ ρ' ρ1 : R} {r : Rec} {n : Nat}

/-! a call that changes its first argument -/

theorem io_call (S : EvSound W hb n r) (G : Gl W hb) (Io : IoSound W hb G.fn n r) (F : FrOk env sc) (ha : AOk A n) (T : St W hb env sc Mo ioL s0 om (Vof ρ) s) {f h : Str} {fp hp pos : Pos} {args : List PySem.Expr} {v : AV}
    (e : ioCall r theDefs sc ρ f h args = some (v, ρ1)) :
    wpAny W.md A (eval (.Call (.Name f fp) (.Name h hp :: args) [] pos) env) (fun u s' => Rp W (vis s'.heap (mm om env Mo)) u v ∧ St W hb env sc Mo ioL s0 om (Vof ρ1) s' ∧ Step env ioL om s om s') E s := by
  refine ifs e fun hk e => bnd e fun c ho e => bnd e fun vs ev e => bnd e fun q hc e => mpd e fun c' hc' hx => ?_
  obtain ⟨hkf, hkh, hd⟩ := hk
  obtain ⟨v', oc⟩ := q
  obtain rfl : oc = some c' := hc'
  obtain ⟨rfl, rfl⟩ := Prod.mk.inj hx
  clear hx e
  obtain ⟨a, hna, hmm, hmv, hhb, hFM, hown, hgo⟩ := T.upOwn (isK_inv hkh) ho
  have D := T.rd F
  have hdb : f ≠ Str.ofString "__debug__" := by
    rintro rfl
    rw [frz_lookup_debug] at hd; (first | exact none_ne hd | obtain rfl := Option.some.inj hd | cases hd)
  have hlk : (theDefs.lookup f).isSome := by
    unfold isDef at hd
    exact (Bool.and_eq_true_iff.mp hd).2
  obtain ⟨d, hdl⟩ := Option.isSome_iff_exists.mp hlk
  obtain ⟨o, fd, hob, hdat, hfn⟩ := G.fns f d hdl
  refine ev_call_name G D (isK_inv hkf) hdb (.inl (G.fng f hd)) (Calls.callWith_function (o := o) (fd := fd) ?_)
  show wpAny _ _ (evalArgs _ true ((false, eval (.Name h hp) env) :: backTo pos (starEach args env)) []) _ _ _
  refine Calls.evalArgs_plain (Calls.spliced_cons (name_at (kd_fun F) hna (own_debug ho) fun w hw => ?_))
  subst hw
  refine wpAny_mono (evs_spliced S ha pos args vs s ev D) (fun us s1 h1 => ?_) fun _ _ q => q
  obtain ⟨k, rl⟩ := h1
  have D1 := D.kept k
  refine ⟨⟨D1.base _ _ hob, hdat⟩, ?_⟩
  refine wpAny_mono (Io f c vs v' c' hlk hc (mm om env Mo) A s1 E a us ha D1.base D1.bd hmm (hown.mono (fun _ q => k.get (by simp) q) (gle_kept k)) hhb rl) (fun u s2 h2 => ?_) fun _ _ q => q
  obtain ⟨m2, ru, o2⟩ := h2
  obtain ⟨T', k'⟩ := hgo s2 c' ((Moves.of_kept k).trans m2) o2
  exact ⟨ru, T', k'⟩

theorem ex_io (S : EvSound W hb n r) (G : Gl W hb) (Io : IoSound W hb G.fn n r) (F : FrOk env sc) (ha : AOk A n) (T : St W hb env sc Mo ioL s0 om (Vof ρ) s) {f h : Str} {fp hp cp pos : Pos} {args : List PySem.Expr}
    (e : ioCall r theDefs sc ρ f h args = some (.none, ρ1)) : wpAny W.md A (exec (.Expr (.Call (.Name f fp) (.Name h hp :: args) [] cp) pos) env) (Post W hb env sc Mo ioL s0 om s .next ρ1) E s := by
  have hint : interactive env = false := by unfold interactive; rw [kd_fun F]; rfl
  refine wpAny_Expr (wpAny_mono (io_call S G Io F ha T e) (fun u s1 h1 => ?_) fun _ _ q => q) hint rfl
  obtain ⟨hr, T', k'⟩ := h1
  (first | exact none_ne hr | obtain rfl := Option.some.inj hr | cases hr)
  exact .next T' k'

theorem ex_tupio (S : EvSound W hb n r) (G : Gl W hb) (Io : IoSound W hb G.fn n r) (F : FrOk env sc) (ha : AOk A n) (T : St W hb env sc Mo ioL s0 om (Vof ρ) s) {f h : Str} {fp hp cp tp pos : Pos} {k : Nat} {args ts : List PySem.Expr} {v : AV}
    (e : ioCall r theDefs sc ρ f h args = some (v, ρ1)) (es : assignA sc (.Tuple ts k tp) v ρ1 = some ρ') :
    wpAny W.md A (exec (.Assign [.Tuple ts k tp] (.Call (.Name f fp) (.Name h hp :: args) [] cp) pos) env) (Post W hb env sc Mo ioL s0 om s .next ρ') E s := by
  refine wpAny_Assign_stores (wpAny_mono (io_call S G Io F ha T e) (fun u s1 h1 => ?_) fun _ _ q => q) rfl rfl
  obtain ⟨hr, T', k'⟩ := h1
  show wpAny _ _ (assign (.Tuple ts k tp) env u) _ _ _
  exact wpAny_mono (assign_ok F ha.handled T' es hr) (fun _ s2 ⟨om2, T2, k2, _⟩ => .next T2 (k'.trans k2)) fun _ _ q => q

/-- a tuple of names from an expression that is not frozen before -/
theorem ex_tuple0 (S : EvSound W hb n r) (F : FrOk env sc) (ha : AOk A n) (T : St W hb env sc Mo ioL s0 om (Vof ρ) s) {ts : List PySem.Expr} {k : Nat} {tp pos : Pos} {value : PySem.Expr} {v : AV}
    (hs : swapsWithSole [.Tuple ts k tp] value pos.line env = pure false) (hw : swappedStores [.Tuple ts k tp] value env = pure none)
    (e : r.ev ⟨sc, none⟩ ρ value = some ⟨v, false⟩) (es : assignA sc (.Tuple ts k tp) v ρ = some ρ') :
    wpAny W.md A (exec (.Assign [.Tuple ts k tp] value pos) env) (Post W hb env sc Mo ioL s0 om s .next ρ') E s := by
  refine wpAny_Assign_stores (wpAny_mono (S _ _ _ _ e env _ A s E ha (T.rd F)) (fun u s1 h1 => ?_) fun _ _ q => q) hs hw
  show wpAny _ _ (assign (.Tuple ts k tp) env u) _ _ _
  exact wpAny_mono (assign_ok F ha.handled (T.kept h1.1) es h1.2) (fun _ s2 ⟨om2, T2, k2, _⟩ => .next T2 ((Step.kept h1.1).trans k2)) fun _ _ q => q

/-! two stores exchanged -/

theorem two_names {t1 t2 : PySem.Expr} (f : PySem.Expr → Option Str) (hf : ∀ e x, f e = some x → ∃ p, e = .Name x p) (hl : (List.filterMap f [t1, t2]).length = 2) (hd : (List.filterMap f [t1, t2]).eraseDups.length = (List.filterMap f [t1, t2]).length) :
    ∃ x y p1 p2, t1 = .Name x p1 ∧ t2 = .Name y p2 ∧ x ≠ y ∧ List.filterMap f [t1, t2] = [x, y] := by
  cases h1 : f t1 with
  | none => cases h2 : f t2 <;> simp [h1, h2] at hl
  | some x =>
    cases h2 : f t2 with
    | none => simp [h1, h2] at hl
    | some y =>
      obtain ⟨p1, e1⟩ := hf _ _ h1
      obtain ⟨p2, e2⟩ := hf _ _ h2
      have hfm : List.filterMap f [t1, t2] = [x, y] := by simp [h1, h2]
      refine ⟨x, y, p1, p2, e1, e2, ?_, hfm⟩
      rintro rfl
      rw [hfm] at hd
      simp [List.eraseDups_cons] at hd

theorem swapped_spec {t1 t2 : PySem.Expr} {vs : List PySem.Expr} {k k2 : Nat} {tp vp : Pos} (hc : vs.all (constantsAlone 8) = false) :
    swappedStores [.Tuple [t1, t2] k tp] (.Tuple vs k2 vp) env = pure none ∨
    ∃ x y p1 p2, t1 = .Name x p1 ∧ t2 = .Name y p2 ∧ x ≠ y ∧ swappedStores [.Tuple [t1, t2] k tp] (.Tuple vs k2 vp) env = pure (some [x, y]) := by
  unfold swappedStores
  dsimp only
  split
  · exact .inl rfl
  · split
    · exact .inl rfl
    · split
      · exact .inl rfl
      · rename_i h3
        split
        · exact .inl rfl
        · rw [hc]
          simp only [Bool.false_eq_true, if_false]
          right
          simp only [Bool.or_eq_true, bne_iff_ne, ne_eq, not_or, Decidable.not_not] at h3
          obtain ⟨hl, hd⟩ := h3
          obtain ⟨x, y, p1, p2, h1, h2, h3, h4⟩ := two_names _ (fun e x h => by
            split at h
            · split at h
              · cases h; exact ⟨_, rfl⟩
              · (first | exact none_ne h | obtain rfl := Option.some.inj h | cases h)
            · cases h) hl hd
          exact ⟨x, y, p1, p2, h1, h2, h3, by rw [h4]⟩

theorem setV_mk {x : Str} {v : Var} (hk : kind ⟨sc, none⟩ x = some .var) (hio : ∀ w, Vof ρ x ≠ some (.io w)) : ∃ ρ', setV sc ρ x v = some ρ' := by
  refine ⟨_, ifsI ⟨isK_of hk, ?_⟩ rfl⟩
  cases h : ρ.vars.lookup x with
  | none => rfl
  | some w =>
    cases w with
    | io v => exact absurd h (hio _)
    | frz v => rfl
    | own v => rfl

/-- two names stored the other way round -/
theorem swap_inv {x y : Str} {p1 p2 tp : Pos} {k : Nat} {v : AV} (hxy : x ≠ y) (es : assignA sc (.Tuple [.Name x p1, .Name y p2] k tp) v ρ = some ρ') :
    ∃ a b σ1 σ2, unpackA v 2 = some [a, b] ∧ setV sc ρ y (.frz b) = some σ1 ∧ setV sc σ1 x (.frz a) = some σ2 ∧ Vof σ2 = Vof ρ' := by
  refine bnd (e := es) fun l hl es => ?_
  have hll : l.length = 2 := unpackA_len hl
  match l, hll with
  | [a, b], _ =>
    obtain ⟨_, _, ρ1, q, hs1, es1⟩ := setAll_cons es
    cases q
    obtain ⟨_, _, ρ2, q, hs2, es2⟩ := setAll_cons es1
    cases q
    obtain rfl := Option.some.inj es2
    obtain ⟨kx, iox, vx⟩ := setV_spec hs1
    obtain ⟨ky, ioy, vy⟩ := setV_spec hs2
    obtain ⟨σ1, hσ1⟩ := setV_mk (v := .frz b) ky fun w q => ioy w (by rw [vx]; unfold upd; rw [if_neg hxy.symm]; exact q)
    obtain ⟨_, _, vσ1⟩ := setV_spec hσ1
    obtain ⟨σ2, hσ2⟩ := setV_mk (ρ := σ1) (v := .frz a) kx (fun w q => iox w (by rw [vσ1] at q; unfold upd at q; rw [if_neg hxy] at q; exact q))
    obtain ⟨_, _, vσ2⟩ := setV_spec hσ2
    refine ⟨a, b, σ1, σ2, hl, hσ1, hσ2, ?_⟩
    rw [vσ2, vy, vσ1, vx]
    funext z
    unfold upd
    by_cases h1 : z = x
    · have h2 : ¬ z = y := fun q => hxy (h1.symm.trans q)
      rw [if_pos h1, if_neg h2, if_pos h1]
    · rw [if_neg h1]
      by_cases h2 : z = y
      · rw [if_pos h2, if_pos h2]
      · rw [if_neg h2, if_neg h2, if_neg h1]

/-- two stores that are exchanged -/
theorem ex_swap (S : EvSound W hb n r) (F : FrOk env sc) (ha : AOk A n) (T : St W hb env sc Mo ioL s0 om (Vof ρ) s) {x y : Str} {p1 p2 tp pos : Pos} {k : Nat} {vs : List PySem.Expr} {k2 : Nat} {vp : Pos} {v : AV} (hxy : x ≠ y)
    (hw : swappedStores [.Tuple [.Name x p1, .Name y p2] k tp] (.Tuple vs k2 vp) env = pure (some [x, y]))
    (e : r.ev ⟨sc, none⟩ (freeze ρ (.Tuple vs k2 vp)) (.Tuple vs k2 vp) = some ⟨v, false⟩) (es : assignA sc (.Tuple [.Name x p1, .Name y p2] k tp) v (freeze ρ (.Tuple vs k2 vp)) = some ρ') :
    wpAny W.md A (exec (.Assign [.Tuple [.Name x p1, .Name y p2] k tp] (.Tuple vs k2 vp) pos) env) (Post W hb env sc Mo ioL s0 om s .next ρ') E s := by
  obtain ⟨om1, _, _, h⟩ := ev_frozen (E := E) S F ha T e
  generalize freeze ρ (.Tuple vs k2 vp) = ρf at *
  rw [arm_exec_Assign]
  refine wpAny_bind (wpAny_standAt ?_)
  show wpAny _ _ (pure false >>= _) _ _ _
  refine wpAny_bind (wpAny_pure ?_)
  rw [if_neg (by decide)]
  refine wpAny_bind (wpAny_mono h (fun u s1 h1 => ?_) fun _ _ q => q)
  rw [hw]
  refine wpAny_bind (wpAny_pure ?_)
  obtain ⟨_, ru, T1, k1⟩ := h1
  obtain ⟨a, b, σ1, σ2, hl, hσ1, hσ2, same⟩ := swap_inv hxy es
  show wpAny _ _ (do rule "assign.swapped-stores"; let items ← unpackItems u [x, y].length none; assignInOrder ([x, y].reverse.map fun n => bindName env n) items.reverse; pure Flow.next) _ _ _
  refine wpAny_bind (wpAny_rule ?_)
  refine wpAny_bind (wpAny_mono (unpackItems_ok ha.handled T1.bd ru hl) (fun us s2 h2 => ?_) fun _ _ q => q)
  obtain ⟨kk, rl⟩ := h2
  obtain ⟨u1, u2, rfl, r1, r2⟩ := rpL_two rl
  show wpAny _ _ ((do holding [u1] (bindName env y u2); holding [] (bindName env x u1); pure ()) >>= fun _ => pure Flow.next) _ _ _
  refine wpAny_bind (wpAny_bind (wpAny_holding (wpAny_bindName (wpAny_mono (setV_frz F (T1.kept kk) hσ1 r2) (fun _ s3 h3 => ?_) fun _ _ q => q))))
  obtain ⟨T3, k3, m3⟩ := h3
  have g : GLe (vis s2.heap (mm om1 env Mo)) (vis s3.heap (mm (rmo om1 y) env Mo)) := (gle_moves m3 fun a ha => List.mem_append_right _ (List.mem_append_left _ ha)).trans (gle_less mm_rmo)
  refine wpAny_bind (wpAny_holding (wpAny_bindName (wpAny_mono (setV_frz F T3 hσ2 (r1.mono g)) (fun _ s4 h4 => ?_) fun _ _ q => q)))
  obtain ⟨T4, k4, _⟩ := h4
  rw [same] at T4
  exact wpAny_pure (wpAny_pure (.next T4 (((k1.trans (.kept kk)).trans k3).trans k4)))
end
end Mine

end

/-! part Stm8 -/
section
set_option maxRecDepth 10000
set_option autoImplicit false
set_option linter.unusedVariables false
namespace Mine
open PySem PySem.W PyProof.Rows

section
variable {W : Wd} {hb : Heap} {env : Env} {sc : Scope} {Mo ioL : List Addr} {s0 s s' s'' : Shared} {om om' om'' : List (Str × Addr)} {A : Around} {E : Value → Shared → Prop} {ρ ρ' ρ1 : R} {r : Rec} {n : Nat}

/-! loops -/

theorem step_more {I : Addr} (k : Step env ioL om s om' s') : Step env (I :: ioL) om s om' s' :=
  ⟨k.run.mono fun a h => .inl (by
    rcases List.mem_append.mp h with h | h
    · exact List.mem_append_left _ h
    · rcases List.mem_append.mp h with h | h
      · exact List.mem_append_right _ (List.mem_append_left _ h)
      · exact List.mem_append_right _ (List.mem_append_right _ (List.mem_cons_of_mem _ h))),
   fun a h => (k.new a h).imp (fun h => by
    rcases List.mem_append.mp h with h | h
    · exact List.mem_append_left _ h
    · rcases List.mem_append.mp h with h | h
      · exact List.mem_append_right _ (List.mem_append_left _ h)
      · exact List.mem_append_right _ (List.mem_append_right _ (List.mem_cons_of_mem _ h))) id⟩

theorem mv_cons {I a : Addr} (h : a ∈ mv om env (I :: ioL)) : a = I ∨ a ∈ mv om env ioL := by
  rcases List.mem_append.mp h with h | h
  · exact .inr (List.mem_append_left _ h)
  · rcases List.mem_append.mp h with h | h
    · exact .inr (List.mem_append_right _ (List.mem_append_left _ h))
    · rcases List.mem_cons.mp h with h | h
      · exact .inl h
      · exact .inr (List.mem_append_right _ (List.mem_append_right _ h))

/-- the loop's own iterator is forgotten -/
theorem step_less {I : Addr} (k0 : Kept s s') (hI : s.heap.get? I = none) (k : Step env (I :: ioL) om s' om' s'') : Step env ioL om s om' s'' := by
  refine ⟨(Moves.of_kept k0).next k.run fun a h => ?_, fun a h => ?_⟩
  · rcases mv_cons h with rfl | h
    · exact .inr hI
    · exact .inl h
  · rcases k.new a h with h | h
    · rcases mv_cons h with rfl | h
      · exact .inr hI
      · exact .inl h
    · exact .inr (dead_back k0 h)

noncomputable def LoopPost (W : Wd) (hb : Heap) (env : Env) (sc : Scope) (Mo ioL : List Addr) (s0 : Shared) (om : List (Str × Addr)) (s : Shared) (I : Addr) (fl : Fl) (ρ' : R) (rr : Result) (s' : Shared) : Prop :=
  ∃ f om', rr = .ok f ∧ FlOk W (vis s'.heap (mm om' env Mo)) f fl ∧ St W hb env sc Mo ioL s0 om' (Vof ρ') s' ∧ Step env (I :: ioL) om s om' s'

theorem flOk_mono {g g' : G} {f : Flow} {fl : Fl} (h : FlOk W g f fl) (k : GLe g g') : FlOk W g' f fl := by
  cases f <;> cases fl <;> first | exact h | exact Rp.mono k h

theorem flow_turn {fl1 fl : Fl} {ρ3 : R} {go : R → Option (Fl × R)} (e : turnGo (fl1, ρ3) go = some (fl, ρ')) {g : G} {f : Flow} (h : FlOk W g f fl1) {P : Flow → Prop} (hn : go ρ3 = some (fl, ρ') → P .next ∧ P .cont)
    (hb : FlOk W g .next fl → ρ' = ρ3 → P .brk) (hr : ∀ u, FlOk W g (.ret u) fl → ρ' = ρ3 → P (.ret u)) : P f := by
  cases fl1 with
  | next => cases f with
    | next => exact (hn e).1
    | _ => exact h.elim
  | cont => cases f with
    | cont => exact (hn e).2
    | _ => exact h.elim
  | brk => cases f with
    | brk => cases e; exact hb h rfl
    | _ => exact h.elim
  | ret v => cases f with
    | ret u => cases e; exact hr u h rfl
    | _ => exact h.elim
noncomputable def FInv (W : Wd) (hb : Heap) (env : Env) (sc : Scope) (Mo ioL : List Addr) (s0 : Shared) (om : List (Str × Addr)) (s : Shared) (I : Addr) (r : Rec) (t : PySem.Expr) (body : List Stmt) (l : List AV) (S : Nat → Heap → Prop) (fl : Fl) (ρ' : R) (m : Nat) (s₃ : Shared) : Prop :=
  ∃ i om1 ρ1, m = l.length - i ∧ i ≤ l.length ∧ S i s₃.heap ∧ St W hb env sc (I :: Mo) ioL s0 om1 (Vof ρ1) s₃ ∧ Step env (I :: ioL) om s om1 s₃ ∧ forA r sc t body (l.drop i) ρ1 = some (fl, ρ')
/-- behind a turn's body -/
noncomputable def FTurn (W : Wd) (hb : Heap) (env : Env) (sc : Scope) (Mo ioL : List Addr) (s0 : Shared) (om : List (Str × Addr)) (s : Shared) (I : Addr) (fl : Fl) (ρ' : R) (Inv : Nat → Shared → Prop) (k : Nat) (f : Flow) (s₃ : Shared) : Prop := match f with
  | .next | .cont => ∃ m, m < k ∧ Inv m s₃
  | .brk => LoopPost W hb env sc Mo ioL s0 om s I fl ρ' (.ok .next) s₃
  | .ret v => LoopPost W hb env sc Mo ioL s0 om s I fl ρ' (.ok (.ret v)) s₃
noncomputable def FRaise (W : Wd) (hb : Heap) (env : Env) (sc : Scope) (Mo ioL : List Addr) (s0 : Shared) (om : List (Str × Addr)) (s : Shared) (I : Addr) (fl : Fl) (ρ' : R) (A : Around) : Value → Shared → Prop := notedBy (model W.prog W.w) A env fun e s' => LoopPost W hb env sc Mo ioL s0 om s I fl ρ' (.error e) s'

theorem for_loop (X : ExSound W hb n r) (F : FrOk env sc) (ha : AOk A n) {t : PySem.Expr} {body : List Stmt} {g1 : G} {I : Addr} {l : List AV} {S : Nat → Heap → Prop} (It : ItF W A g1 I t l S) (hI : g1 I = none) (hIio : I ∉ ioL) (hIMo : I ∉ Mo) (h0 : s0.heap.get? I = none)
    (hioM : ∀ a ∈ ioL, a ∈ Mo) (hg : GLe g1 s.heap.get?) (hmv : ∀ a ∈ mv om env ioL, g1 a = none) (hMo : ∀ a ∈ Mo, g1 a = none) {fl : Fl}
    (T : St W hb env sc (I :: Mo) ioL s0 om (Vof ρ) s) (st : S 0 s.heap) (e : forA r sc t body l ρ = some (fl, ρ')) :
    codeAny W.md A (.forLoop t (.ref I) body [] env) (LoopPost W hb env sc Mo ioL s0 om s I fl ρ') s := by
  have gle_step : ∀ {om' s'}, Step env (I :: ioL) om s om' s' → GLe g1 s'.heap.get? := fun {om' s'} k a o q => k.run.get (fun h => by
    rcases mv_cons h with rfl | h
    · rw [hI] at q; cases q
    · rw [hmv a h] at q; cases q) (hg a o q)
  have dom : ∀ {om' s'}, Step env (I :: ioL) om s om' s' → ∀ b ∈ mm om' env (I :: Mo), g1 b = none := fun {om' s'} k b hb => by
    rcases List.mem_append.mp hb with hb | hb
    · rcases k.new b hb with h | h
      · rcases mv_cons h with rfl | h
        · exact hI
        · exact hmv b h
      · cases q : g1 b with
        | none => rfl
        | some o => rw [hg b o q] at h; cases h
    · rcases List.mem_append.mp hb with hb | hb
      · exact hmv b (List.mem_append_right _ (List.mem_append_left _ hb))
      · rcases List.mem_cons.mp hb with rfl | hb
        · exact hI
        · exact hMo b hb
  refine codeAny_forLoop_any (FInv W hb env sc Mo ioL s0 om s I r t body l S fl ρ') ?_ l.length
    ⟨0, om, ρ, by simp, Nat.zero_le _, st, T, .refl, by simpa using e⟩
  rintro k s1 ⟨i, om1, ρ1, rfl, hi, st1, T1, k1, e1⟩
  by_cases hlt : i < l.length
  · have hai : l[i]? = some l[i] := by simp [hlt]
    rw [List.drop_eq_getElem_cons hlt] at e1
    refine bnd e1 fun ρ2 has e2 => bnd e2 fun p hb1 e3 => ?_
    obtain ⟨fl1, ρ3⟩ := p
    clear e1 e2
    refine wpAny_mono (It.turn i l[i] s1 (fun v s2 => wpAny W.md A (assign t env v) (fun _ s₂ => wpAny W.md A (execs body env) (FTurn W hb env sc Mo ioL s0 om s I fl ρ' (FInv W hb env sc Mo ioL s0 om s I r t body l S fl ρ') (l.length - i)) (FRaise W hb env sc Mo ioL s0 om s I fl ρ' A) s₂) (FRaise W hb env sc Mo ioL s0 om s I fl ρ' A) s2) (FRaise W hb env sc Mo ioL s0 om s I fl ρ' A) hai st1 (gle_step k1) fun v s2 k2 st2 rv => ?_) (fun o s2 h2 => ?_) fun _ _ q => q
    · have T2 := T1.moveHid k2 hIio h0 (It.alive _ _ st2)
      have k12 : Step env (I :: ioL) om1 s1 om1 s2 := .less (fun _ h => h) (k2.mono fun a h => .inl (by simp at h; rw [h]; exact List.mem_append_right _ (List.mem_append_right _ List.mem_cons_self)))
      have r2 : Rp W (vis s2.heap (mm om1 env (I :: Mo))) v l[i] := rv _ T1.bd (dom k1)
      refine wpAny_mono (assign_ok F ha.handled T2 has r2) (fun _ s3 h3 => ?_) fun _ _ q => q
      obtain ⟨om3, T3, k3, _⟩ := h3
      have k03 := (k1.trans k12).trans (step_more k3)
      have nI : ∀ {omx V} {sx : Shared}, St W hb env sc (I :: Mo) ioL s0 omx V sx → I ∉ mv omx env ioL := fun {omx V sx} Tx q => by
        rcases List.mem_append.mp q with q | q
        · exact Tx.apart I (List.mem_append_left _ q) List.mem_cons_self
        · rcases List.mem_append.mp q with q | q
          · exact Tx.apart I (List.mem_append_right _ q) List.mem_cons_self
          · exact hIio q
      have st3 : S (i + 1) s3.heap := It.keep _ _ _ st2 (fun o q => k3.run.get (nI T2) q) (gle_step k03)
      refine wpAny_mono (X _ _ _ _ _ hb1 env (I :: Mo) ioL s0 om3 A s3 _ ha F T3) (fun f s5 hp => ?_) fun _ _ q => q
      obtain ⟨om5, hf, T5, k5⟩ := hp
      have k05 := k03.trans (step_more (I := I) k5)
      refine flow_turn (P := fun f => FTurn W hb env sc Mo ioL s0 om s I fl ρ' (FInv W hb env sc Mo ioL s0 om s I r t body l S fl ρ') (l.length - i) f s5) e3 hf (fun e => ?_) (fun h1 h2 => ⟨.next, om5, rfl, flOk_mono h1 (gle_less mm_out), h2 ▸ T5.show hioM, k05⟩) fun u h1 h2 => ⟨.ret u, om5, rfl, flOk_mono h1 (gle_less mm_out), h2 ▸ T5.show hioM, k05⟩
      have z : ∃ m, m < l.length - i ∧ FInv W hb env sc Mo ioL s0 om s I r t body l S fl ρ' m s5 :=
        ⟨l.length - (i + 1), by omega, i + 1, om5, ρ3, rfl, hlt, It.keep _ _ _ st3 (fun o q => k5.run.get (nI T3) q) (gle_step k05), T5, k05, e⟩
      exact ⟨z, z⟩
    · obtain ⟨v, rfl, h2⟩ := h2
      exact h2
  · have hil : i = l.length := by omega
    subst hil
    rw [List.drop_length] at e1
    cases e1
    refine It.done s1 _ _ st1 (gle_step k1) fun s2 k2 => ?_
    refine wpAny_execs_nil ?_
    have k12 : Step env (I :: ioL) om1 s1 om1 s2 := .less (fun _ h => h) (k2.mono fun a h => .inl (by simp at h; rw [h]; exact List.mem_append_right _ (List.mem_append_right _ List.mem_cons_self)))
    exact ⟨.next, om1, rfl, trivial, T1.forget k2 hioM hIMo h0, k1.trans k12⟩
end
end Mine

end

/-! part Stm9 -/
section
set_option maxRecDepth 10000
set_option autoImplicit false
set_option linter.unusedVariables false
namespace Mine
open PySem PySem.W PyProof.Rows

section
variable {W : Wd} {hb : Heap} {env : Env} {sc : Scope} {Mo ioL : List Addr} {s0 s s' s'' : Shared} {om om' om'' : List (Str × Addr)} {A : Around} {E : Value → Shared → Prop} {ρ ρ' ρ1 : R} {r : Rec} {n : Nat}

theorem mv_mm (hio : ∀ a ∈ ioL, a ∈ Mo) : ∀ a ∈ mv om env ioL, a ∈ mm om env Mo := fun a h => by
  rcases List.mem_append.mp h with h | h
  · exact List.mem_append_left _ h
  · rcases List.mem_append.mp h with h | h
    · exact List.mem_append_right _ (List.mem_append_left _ h)
    · exact List.mem_append_right _ (List.mem_append_right _ (hio a h))
theorem vis_none {h : Heap} {M : List Addr} {a : Addr} (ha : a ∈ M) : vis h M a = none := by unfold vis; rw [if_pos ha]
theorem vis_dead {h : Heap} {M : List Addr} {a : Addr} (ha : h.get? a = none) : vis h M a = none := by
  unfold vis; split
  · rfl
  · exact ha

/-- a loop behind its iterator -/
theorem loop_run (X : ExSound W hb n r) (F : FrOk env sc) (ha : AOk A n) (T : St W hb env sc Mo ioL s0 om (Vof ρ) s) {t : PySem.Expr} {body : List Stmt} {I : Addr} {l : List AV} {S : Nat → Heap → Prop} (k : Kept s s') (hI : s.heap.get? I = none) (hal : ∃ o, s'.heap.get? I = some o)
    (It : ItF W A (vis s.heap (mm om env Mo)) I t l S) (st : S 0 s'.heap) {fl : Fl} (e : forA r sc t body l ρ = some (fl, ρ')) {Q : Flow → Shared → Prop} (hQ : ∀ f s'', Post W hb env sc Mo ioL s0 om s fl ρ' f s'' → Q f s'') :
    codeAny W.md A (.forLoop t (.ref I) body [] env) (fun rr s'' => match rr with | .ok f => Q f s'' | .error e => cameBackBy W.md A env E e s'') s' := by
  have hio : ∀ a ∈ ioL, a ∈ Mo := fun a h => (T.ioB a h).2
  have nI : I ∉ Mo := fun q => by
    obtain ⟨o, ho⟩ := T.bd I (List.mem_append_right _ (List.mem_append_right _ q))
    rw [hI] at ho; (first | exact none_ne ho | obtain rfl := Option.some.inj ho | cases ho)
  have nIo : I ∉ ioL := fun q => nI (hio I q)
  have h0 : s0.heap.get? I = none := (dead_moves T.moves hI).resolve_left nIo
  refine codeAny_mono (for_loop X F ha It (vis_dead hI) nIo nI h0 hio (fun a o q => k.get (by simp) (vis_iff.mp q).2) (fun a h => vis_none (mv_mm hio a h)) (fun a h => vis_none (List.mem_append_right _ (List.mem_append_right _ h))) (T.hide k hI hal) st e) fun rr s'' h => ?_
  obtain ⟨f, om', rfl, hf, T', k'⟩ := h
  exact hQ f s'' ⟨om', hf, T', step_less k hI k'⟩

theorem ex_for (S : EvSound W hb n r) (X : ExSound W hb n r) (F : FrOk env sc) (ha : AOk A n) (T : St W hb env sc Mo ioL s0 om (Vof ρ) s) {t it : PySem.Expr} {body : List Stmt} {pos : Pos} {src : AV} {l : List AV} {fl : Fl} (hset : notSet it = true)
    (ev : r.ev ⟨sc, none⟩ (freeze ρ it) it = some ⟨src, false⟩) (hi : iterA t src = some l) (e : forA r sc t body l (freeze ρ it) = some (fl, ρ')) :
    wpAny W.md A (exec (.For t it body [] pos) env) (Post W hb env sc Mo ioL s0 om s fl ρ') E s := by
  obtain ⟨om1, _, _, h⟩ := ev_frozen (E := E) S F ha T ev
  refine wpAny_For (wpAny_mono h (fun u s1 h1 => ?_) fun _ _ q => q) (fun x => by cases it <;> first | rfl | cases hset)
  obtain ⟨_, ru, T1, k1⟩ := h1
  refine wpAny_mono (itf_ok (tg := t) (g1 := vis s1.heap (mm om1 env Mo)) (fun a o q => (vis_iff.mp q).2) ru hi) (fun itv s2 h2 => ?_) fun _ _ q => q
  obtain ⟨I, Si, rfl, hI, k2, hal, It, st⟩ := h2
  exact loop_run X F ha T1 k2 hI hal (It A ha.handled) st e fun f s3 h => h.after k1

theorem rev_range (n : Nat) : ((List.range n).reverse.map fun i => AV.int (i : Nat)) = (List.range n).map fun i => .int (((n : Int) - 1) + (i : Nat) * (-1)) := by
  apply List.ext_getElem
  · simp
  · intro i h1 h2
    simp at h1 h2 ⊢
    omega

theorem ex_rev (S : EvSound W hb n r) (X : ExSound W hb n r) (G : Gl W hb) (F : FrOk env sc) (ha : AOk A n) (T : St W hb env sc Mo ioL s0 om (Vof ρ) s) {t x : PySem.Expr} {fp cp gp cp2 pos : Pos} {body : List Stmt} {m : Int} {a : AR} {fl : Fl} (hst : notStar x = true)
    (hf : kind ⟨sc, none⟩ (sN "reversed") = some .glob) (hg : kind ⟨sc, none⟩ (sN "range") = some .glob) (ev : r.ev ⟨sc, none⟩ ρ x = some a) (hm : asInt a.v = some m) (hs : small m = true)
    (e : forA r sc t body ((List.range m.toNat).reverse.map fun i => .int (i : Nat)) ρ = some (fl, ρ')) :
    wpAny W.md A (exec (.For t (.Call (.Name (sN "reversed") fp) [.Call (.Name (sN "range") gp) [x] [] cp2] [] cp) body [] pos) env) (Post W hb env sc Mo ioL s0 om s fl ρ') E s := by
  have D := T.rd F
  have h0 := small_spec hs
  refine wpAny_For ?_ (fun x => rfl)
  refine ev_call_name G D hf (by decide) (.inr (G.ty "reversed" (by decide))) ?_
  refine PyProof.Rows.callWith_type rfl (Calls.evalArgs_plain (Calls.spliced_cons ?_))
  refine ev_call_name G D hg (by decide) (.inr (G.ty "range" (by decide))) ?_
  rw [starEach_cons hst]
  refine PyProof.Rows.callWith_type rfl (Calls.evalArgs_plain (Calls.spliced_cons ?_))
  refine wpAny_mono (S _ _ _ _ ev env _ A s E ha D) (fun u s1 h1 => Calls.spliced_nil ?_) fun _ _ q => q
  obtain ⟨k1, ru⟩ := h1
  refine wpAny_mono (range_ok (D.kept k1).bd hm ru) (fun w s2 h2 => Calls.spliced_nil ?_) fun _ _ q => q
  obtain ⟨k2, rw2⟩ := h2
  cases rw2 with
  | rng hr =>
    have hr' := (vis_iff.mp hr).2
    have k02 := k1.trans k2
    have T2 := T.kept k02
    refine call_reversed_range hr' hs ?_
    have hst : IsRangeIter (s2.heap.push (rIter m)) s2.heap.objs.size (m - 1) m (-1) := by
      show Heap.get? _ _ = _
      exact Heap.get?_push_size _ rfl
    refine wpAny_pyIter_rangeiter (s := { s2 with heap := s2.heap.push (rIter m) }) hst ?_
    have hm : ((m.toNat : Nat) : Int) = m := Int.toNat_of_nonneg h0.1
    have hl := rev_range m.toNat
    rw [hl] at e
    refine loop_run X F ha T2 (s' := { s2 with heap := s2.heap.push (rIter m) }) (kept_push _) (get_new _) ⟨_, Heap.get?_push_size _ rfl⟩ (itf_range (x0 := (m.toNat : Int) - 1) (c := -1) (n := m.toNat) ha.handled) ?_ e fun f s3 h => h.after (.kept k02)
    show IsRangeIter _ _ (((m.toNat : Int) - 1) + ((0 : Nat) : Int) * (-1)) ((m.toNat : Int) - ((0 : Nat) : Int)) (-1)
    rw [hm]
    simpa using hst

noncomputable def WInv (W : Wd) (hb : Heap) (env : Env) (sc : Scope) (Mo ioL : List Addr) (s0 : Shared) (om : List (Str × Addr)) (s : Shared) (r : Rec) (t : PySem.Expr) (body : List Stmt) (fl : Fl) (ρ' : R) (k : Nat) (s' : Shared) : Prop :=
  ∃ om1 ρ1, St W hb env sc Mo ioL s0 om1 (Vof ρ1) s' ∧ Step env ioL om s om1 s' ∧ whileA r sc t body k ρ1 = some (fl, ρ')
noncomputable def WTurn (Q : Flow → Prop) (I : Prop) : Flow → Prop
  | .next => I
  | .cont => I
  | .brk => Q .next
  | .ret v => Q (.ret v)
theorem ex_while (Ts : TsSound W hb n r) (X : ExSound W hb n r) (F : FrOk env sc) (ha : AOk A n) (T : St W hb env sc Mo ioL s0 om (Vof ρ) s) {t : PySem.Expr} {body : List Stmt} {pos : Pos} {k : Nat} {fl : Fl} (e : whileA r sc t body k ρ = some (fl, ρ')) :
    wpAny W.md A (exec (.While t body [] pos) env) (Post W hb env sc Mo ioL s0 om s fl ρ') E s := by
  refine wpAny_While (codeAny_whileLoop (WInv W hb env sc Mo ioL s0 om s r t body fl ρ') ?_ k ⟨om, ρ, T, .refl, e⟩)
  rintro k s1 ⟨om1, ρ1, T1, k1, e1⟩
  cases k with
  | zero => exact none_ne e1
  | succ k =>
    refine bnd e1 fun c ht e2 => ?_
    refine wpAny_mono (Ts _ _ _ _ ht env _ A s1 _ ha (T1.rd F)) (fun b s2 h => ?_) fun _ _ q => q
    obtain ⟨rfl, kk⟩ := h
    have T2 := T1.kept kk
    have k2 := k1.trans (.kept kk)
    cases b with
    | false =>
      dsimp only [Bool.false_eq_true, if_false]
      cases e2
      exact wpAny_execs_nil ⟨om1, trivial, T2, k2⟩
    | true =>
      dsimp only [if_true]
      refine bnd e2 fun p hb1 e3 => ?_
      obtain ⟨fl1, ρ3⟩ := p
      refine wpAny_mono (X _ _ _ _ _ hb1 env Mo ioL s0 om1 A s2 _ ha F T2) (fun f s3 hp => ?_) fun _ _ q => q
      obtain ⟨om3, hf, T3, k3⟩ := hp
      have k4 := k2.trans k3
      refine flow_turn (P := WTurn (fun f => Post W hb env sc Mo ioL s0 om s fl ρ' f s3) (∃ m, m < k + 1 ∧ WInv W hb env sc Mo ioL s0 om s r t body fl ρ' m s3)) e3 hf ?_ ?_ ?_
      · exact fun e => ⟨⟨k, Nat.lt_succ_self _, om3, ρ3, T3, k4, e⟩, ⟨k, Nat.lt_succ_self _, om3, ρ3, T3, k4, e⟩⟩
      · exact fun h1 h2 => ⟨om3, h1, h2 ▸ T3, k4⟩
      · exact fun u h1 h2 => ⟨om3, h1, h2 ▸ T3, k4⟩
end
end Mine

end

/-! part Stm10 -/
section
set_option maxRecDepth 10000
set_option autoImplicit false
set_option linter.unusedVariables false
namespace Mine
open PySem PySem.W PyProof.Rows

section
variable {W : Wd} {hb : Heap} {env : Env} {sc : Scope} {Mo ioL : List Addr} {s0 s s' s'' : Shared} {om om' om'' : List (Str × Addr)} {A : Around} {E : Value → Shared → Prop} {ρ ρ' ρ1 : R} {r : Rec} {n : Nat}

theorem notFresh {value : PySem.Expr} (h : ¬ isFreshForm value = true) : isComp value = false := by
  cases value <;> first | rfl | exact absurd rfl h
theorem ex_fresh (Fr : FrSound W hb n r) (F : FrOk env sc) (ha : AOk A n) (T : St W hb env sc Mo ioL s0 om (Vof ρ) s) {x : Str} {xp pos : Pos} {value : PySem.Expr} {v : AV} (hf : isFreshForm value = true)
    (h1 : r.ev ⟨sc, none⟩ (freeze ρ value) value = some ⟨v, false⟩) (hρ : setV sc (freeze ρ value) x (.own v) = some ρ') :
    wpAny W.md A (exec (.Assign [.Name x xp] value pos) env) (Post W hb env sc Mo ioL s0 om s .next ρ') E s := by
  obtain ⟨om1, T1, k1⟩ := freeze_ok T value
  exact wpAny_mono (Fr sc _ value v hf h1 env _ A s E x xp pos _ ha (T1.rd F) (setV_new F T1 hρ)) (fun f s1 h => h.after k1) fun _ _ q => q

theorem ex_tup (S : EvSound W hb n r) (F : FrOk env sc) (ha : AOk A n) (T : St W hb env sc Mo ioL s0 om (Vof ρ) s) {ts : List PySem.Expr} {k : Nat} {p pos : Pos} {value : PySem.Expr} {v : AV} (hsw : swapOk ts value = true)
    (h1 : r.ev ⟨sc, none⟩ (freeze ρ value) value = some ⟨v, false⟩) (hρ : assignA sc (.Tuple ts k p) v (freeze ρ value) = some ρ') :
    wpAny W.md A (exec (.Assign [.Tuple ts k p] value pos) env) (Post W hb env sc Mo ioL s0 om s .next ρ') E s := by
  by_cases ht : ∃ vs k2 vp, value = .Tuple vs k2 vp
  · obtain ⟨vs, k2, vp, rfl⟩ := ht
    obtain ⟨h2, h3⟩ := Bool.and_eq_true_iff.mp hsw
    have h3 := (Bool.not_eq_true' _).mp h3
    match ts, eq_of_beq h2 with
    | [t1, t2], _ =>
      rcases swapped_spec (env := env) (t1 := t1) (t2 := t2) (k := k) (tp := p) (k2 := k2) (vp := vp) h3 with hw | ⟨x, y, p1, p2, rfl, rfl, hxy, hw⟩
      · exact ex_tuple S F ha T hw h1 hρ
      · exact ex_swap S F ha T hxy hw h1 hρ
  · refine ex_tuple S F ha T ?_ h1 hρ
    cases value <;> first | rfl | exact absurd ⟨_, _, _, rfl⟩ ht

theorem popForm_some {v : PySem.Expr} {q : Str × Str × Pos × Pos} (e : popForm v = some q) : ∃ hp, v = .Call (.Attribute (.Name q.1 hp) q.2.1 q.2.2.1) [] [] q.2.2.2 := by
  refine bnd e fun c h1 e => ifs e fun h2 e => bnd e fun a h3 e => mpd e fun h h4 hx => ?_
  subst hx
  obtain ⟨p, h5⟩ := nameOf_some h4
  exact ⟨p, by rw [callV_inv h1, attV_inv h3, h5, isEmpty_inv h2]⟩
theorem head_tail {α : Type} {l : List α} {a : α} (h : l.head? = some a) : l = a :: l.tail := by
  cases l with
  | nil => exact none_ne h
  | cons b t => rw [Option.some.inj h]; rfl
theorem callForm_some {v : PySem.Expr} {q : Str × Pos × Str × Pos × List PySem.Expr × Pos} (e : callForm v = some q) : v = .Call (.Name q.1 q.2.1) (.Name q.2.2.1 q.2.2.2.1 :: q.2.2.2.2.1) [] q.2.2.2.2.2 := by
  refine bnd e fun c h1 e => bnd e fun f h2 e => bnd e fun a h3 e => mpd e fun h h4 hx => ?_
  subst hx
  rw [callV_inv h1, nameV_inv h2, head_tail h3, nameV_inv h4]
  rfl
theorem appForm_some {v : PySem.Expr} {q : Str × Str × PySem.Expr × Pos × Pos} (e : appForm v = some q) : ∃ xp, v = .Call (.Attribute (.Name q.1 xp) q.2.1 q.2.2.2.1) [q.2.2.1] [] q.2.2.2.2 := by
  refine bnd e fun c h1 e => bnd e fun a h3 e => bnd e fun x h2 e => mpd e fun h h4 hx => ?_
  subst hx
  obtain ⟨p, h5⟩ := nameOf_some h4
  exact ⟨p, by rw [callV_inv h1, attV_inv h3, h5, one_inv h2]⟩
theorem call1_some {v : PySem.Expr} {q : Str × PySem.Expr} (e : call1 v = some q) : ∃ p r, v = .Call (.Name q.1 p) [q.2] [] r := by
  refine bnd e fun c h1 e => bnd e fun x h2 e => mpd e fun f h3 hx => ?_
  subst hx
  obtain ⟨p, h5⟩ := nameOf_some h3
  exact ⟨p, c.2.2, by rw [callV_inv h1, h5, one_inv h2]⟩
theorem revForm_some {v : PySem.Expr} {q : Str × Str × PySem.Expr} (e : revForm v = some q) : ∃ p1 p2 p3 p4, v = .Call (.Name q.1 p1) [.Call (.Name q.2.1 p2) [q.2.2] [] p3] [] p4 := by
  refine bnd e fun c h1 e => mpd e fun d h2 hx => ?_
  subst hx
  obtain ⟨p1, p4, h1⟩ := call1_some h1
  obtain ⟨p2, p3, h2⟩ := call1_some h2
  exact ⟨p1, p2, p3, p4, by rw [h1, h2]⟩

theorem exPop_ok (F : FrOk env sc) (ha : AOk A n) (T : St W hb env sc Mo ioL s0 om (Vof ρ) s) {x h m : Str} {xp hp apos cp pos : Pos} {fl : Fl} (e : exPop sc ρ x h m apos cp = some (fl, ρ')) :
    wpAny W.md A (exec (.Assign [.Name x xp] (.Call (.Attribute (.Name h hp) m apos) [] [] cp) pos) env) (Post W hb env sc Mo ioL s0 om s fl ρ') E s := by
  refine ifs e fun hm e => bnd e fun c ho e => bnd e fun l hl e => ifs e fun hlen e => bnd e fun q hp e => mpd e fun ρ2 hρ h2 => ?_
  obtain ⟨rfl, h1, h3⟩ := hm
  cases h2
  exact ex_pop F ha T h1 (isK_inv h3) (ho.trans (congrArg some (asList_inv hl))) hlen hp hρ
theorem exName_ok (S : EvSound W hb n r) (Fr : FrSound W hb n r) (F : FrOk env sc) (ha : AOk A n) (T : St W hb env sc Mo ioL s0 om (Vof ρ) s) {x : Str} {value : PySem.Expr} {xp p : Pos} {fl : Fl} (e : exName r sc ρ x value = some (fl, ρ')) :
    wpAny W.md A (exec (.Assign [.Name x xp] value p) env) (Post W hb env sc Mo ioL s0 om s fl ρ') E s := by
  refine bnd e fun v h1 e => ifb e (fun hf e => mpd e fun ρ2 hρ h2 => ?_) fun hf e => ifs e fun hsc e => mpd e fun ρ2 hρ h2 => ?_
  · cases h2
    exact ex_fresh Fr F ha T hf (clean_inv h1) hρ
  · cases h2
    exact ex_name S F ha T (notFresh hf) (fun a b c d q => by rw [q] at hsc; cases hsc) (clean_inv h1) hρ
theorem exCallT_ok (S : EvSound W hb n r) (G : Gl W hb) (Io : IoSound W hb G.fn n r) (F : FrOk env sc) (ha : AOk A n) (T : St W hb env sc Mo ioL s0 om (Vof ρ) s) {ts : List PySem.Expr} {k : Nat} {tp : Pos} {f : Str} {fp : Pos} {h : Str} {hp : Pos} {args : List PySem.Expr} {cp p : Pos} {fl : Fl}
    (e : exCallT r theDefs sc ρ ts k tp f fp h hp args cp = some (fl, ρ')) : wpAny W.md A (exec (.Assign [.Tuple ts k tp] (.Call (.Name f fp) (.Name h hp :: args) [] cp) p) env) (Post W hb env sc Mo ioL s0 om s fl ρ') E s := by
  refine ifb e (fun _ e => bnd e fun q h1 e => mpd e fun ρ2 hρ h2 => ?_) fun _ e => bnd e fun v h1 e => mpd e fun ρ2 hρ h2 => ?_
  · cases h2
    exact ex_tupio S G Io F ha T h1 hρ
  · cases h2
    exact ex_tuple0 S F ha T rfl rfl (clean_inv h1) hρ
theorem exTup_ok (S : EvSound W hb n r) (F : FrOk env sc) (ha : AOk A n) (T : St W hb env sc Mo ioL s0 om (Vof ρ) s) {ts : List PySem.Expr} {k : Nat} {tp : Pos} {value : PySem.Expr} {p : Pos} {fl : Fl}
    (e : exTup r sc ρ ts k tp value = some (fl, ρ')) : wpAny W.md A (exec (.Assign [.Tuple ts k tp] value p) env) (Post W hb env sc Mo ioL s0 om s fl ρ') E s := by
  refine ifs e fun hsw e => bnd e fun v h1 e => mpd e fun ρ2 hρ h2 => ?_
  cases h2
  exact ex_tup S F ha T hsw (clean_inv h1) hρ
theorem exSub_ok (S : EvSound W hb n r) (F : FrOk env sc) (ha : AOk A n) (T : St W hb env sc Mo ioL s0 om (Vof ρ) s) {x : Str} {i value : PySem.Expr} {xp sp p : Pos} {fl : Fl}
    (e : exSub r sc ρ x i value = some (fl, ρ')) : wpAny W.md A (exec (.Assign [.Subscript (.Name x xp) i sp] value p) env) (Post W hb env sc Mo ioL s0 om s fl ρ') E s := by
  refine ifs e fun hk e => bnd e fun v hv e => bnd e fun a hi e => bnd e fun c ho e => mpd e fun c' hs h2 => ?_
  cases h2
  exact ex_store S F ha T (isK_inv hk) (clean_inv hv) hi ho hs
theorem exAssign_ok (S : EvSound W hb n r) (Fr : FrSound W hb n r) (G : Gl W hb) (Io : IoSound W hb G.fn n r) (F : FrOk env sc) (ha : AOk A n) (T : St W hb env sc Mo ioL s0 om (Vof ρ) s) {t value : PySem.Expr} {p : Pos} {fl : Fl}
    (e : exAssign r theDefs sc ρ t value = some (fl, ρ')) : wpAny W.md A (exec (.Assign [t] value p) env) (Post W hb env sc Mo ioL s0 om s fl ρ') E s := by
  induction t using PySem.Expr.casesOn with
  | Name x xp =>
    refine elm (show (popForm value).elim _ _ = _ from e) (fun _ e => exName_ok S Fr F ha T e) fun q hf e => ?_
    obtain ⟨hp, rfl⟩ := popForm_some hf
    exact exPop_ok F ha T e
  | Tuple ts k tp =>
    refine elm (show (callForm value).elim _ _ = _ from e) (fun _ e => exTup_ok S F ha T e) fun q hf e => ?_
    obtain rfl := callForm_some hf
    exact exCallT_ok S G Io F ha T e
  | Subscript x i sp =>
    refine bnd (show (nameOf x).bind _ = _ from e) fun y hf e => ?_
    obtain ⟨xp, rfl⟩ := nameOf_some hf
    exact exSub_ok S F ha T e
  | _ => exact none_ne e

theorem isAdd_inv {op : Operator} (h : isAdd op = true) : op = .Add := by cases op <;> first | rfl | cases h
theorem frzInt_inv {w : Option Var} {a : Int} (e : w.bind frzInt = some a) : w = some (.frz (.int a)) := bnd e fun w h1 e => by
  cases w with
  | frz u => exact h1.trans (congrArg (fun u => some (Var.frz u)) (asInt_inv e))
  | _ => exact none_ne e
theorem exAugN_ok (S : EvSound W hb n r) (F : FrOk env sc) (ha : AOk A n) (T : St W hb env sc Mo ioL s0 om (Vof ρ) s) {x : Str} {value : PySem.Expr} {op : Operator} {xp p : Pos} {fl : Fl}
    (e : exAugN r sc ρ x op value = some (fl, ρ')) : wpAny W.md A (exec (.AugAssign (.Name x xp) op value p) env) (Post W hb env sc Mo ioL s0 om s fl ρ') E s := by
  refine ifs e fun hk e => bnd e fun a hx e => bnd e fun b hv e => mpd e fun ρ2 hρ h2 => ?_
  cases h2
  rw [isAdd_inv hk.2]
  obtain ⟨o, hv⟩ := intV_inv hv
  exact ex_aug S F ha T (isK_inv hk.1) (frzInt_inv hx) hv hρ
theorem exAugS_ok (S : EvSound W hb n r) (F : FrOk env sc) (ha : AOk A n) (T : St W hb env sc Mo ioL s0 om (Vof ρ) s) {x : Str} {i value : PySem.Expr} {op : Operator} {xp sp p : Pos} {fl : Fl}
    (e : exAugS r sc ρ x i op value = some (fl, ρ')) : wpAny W.md A (exec (.AugAssign (.Subscript (.Name x xp) i sp) op value p) env) (Post W hb env sc Mo ioL s0 om s fl ρ') E s := by
  refine ifs e fun hk e => bnd e fun d ho e => bnd ho fun c ho h1 => bnd e fun k hi e => bnd e fun b hv e => bnd e fun a hd e => bnd hd fun w hd h2 => ifs e fun hlen e => ?_
  cases e
  rw [isAdd_inv hk.2.2]
  obtain ⟨o1, hi⟩ := strV_inv hi
  obtain ⟨o2, hv⟩ := intV_inv hv
  exact ex_augsub S F ha T hk.1 (isK_inv hk.2.1) (ho.trans (congrArg some (asDict_inv h1))) hi hv (hd.trans (congrArg some (asInt_inv h2))) hlen
theorem exAug_ok (S : EvSound W hb n r) (F : FrOk env sc) (ha : AOk A n) (T : St W hb env sc Mo ioL s0 om (Vof ρ) s) {t value : PySem.Expr} {op : Operator} {p : Pos} {fl : Fl}
    (e : exAug r sc ρ t op value = some (fl, ρ')) : wpAny W.md A (exec (.AugAssign t op value p) env) (Post W hb env sc Mo ioL s0 om s fl ρ') E s := by
  induction t using PySem.Expr.casesOn with
  | Name x xp => exact exAugN_ok S F ha T e
  | Subscript x i sp =>
    refine bnd (show (nameOf x).bind _ = _ from e) fun y hf e => ?_
    obtain ⟨xp, rfl⟩ := nameOf_some hf
    exact exAugS_ok S F ha T e
  | _ => exact none_ne e

theorem exExpr_ok (S : EvSound W hb n r) (G : Gl W hb) (Io : IoSound W hb G.fn n r) (F : FrOk env sc) (ha : AOk A n) (T : St W hb env sc Mo ioL s0 om (Vof ρ) s) {x : PySem.Expr} {p : Pos} {fl : Fl}
    (e : exExpr r theDefs sc ρ x = some (fl, ρ')) : wpAny W.md A (exec (.Expr x p) env) (Post W hb env sc Mo ioL s0 om s fl ρ') E s := by
  refine elm e (fun _ e => bnd e fun q hf e => bnd e fun w h1 e => ifs e fun h2 e => ?_) fun q hf e => ifs e fun hm e => bnd e fun v hv e => bnd e fun l ho e => bnd ho fun c ho h1 => ifs e fun hlen e9 => ?_
  · obtain rfl := callForm_some hf
    obtain ⟨w1, w2⟩ := w
    obtain rfl : w1 = .none := isNoneA_inv h2
    cases e
    exact ex_io S G Io F ha T h1
  · cases e9
    obtain ⟨q1, q2, q3, q4, q5⟩ := q
    obtain ⟨xp, rfl⟩ := appForm_some hf
    obtain ⟨h3, hl, hst, hk⟩ := hm
    obtain rfl : q2 = _ := h3
    exact ex_append S F ha T hl hst (isK_inv hk) (clean_inv hv) (ho.trans (congrArg some (asList_inv h1))) hlen

theorem exFor_ok (S : EvSound W hb n r) (X : ExSound W hb n r) (G : Gl W hb) (F : FrOk env sc) (ha : AOk A n) (T : St W hb env sc Mo ioL s0 om (Vof ρ) s) {t it : PySem.Expr} {body : List Stmt} {p : Pos} {fl : Fl}
    (e : exFor r (forA r) sc ρ t it body = some (fl, ρ')) : wpAny W.md A (exec (.For t it body [] p) env) (Post W hb env sc Mo ioL s0 om s fl ρ') E s := by
  refine elm e (fun _ e => ifs e fun hset e => bnd e fun src hv e => bnd e fun l hl e => ifs e fun _ e => ex_for S X F ha T hset (clean_inv hv) hl e) fun q hf e => ifs e fun hm e => bnd e fun m hv e => bnd hv fun a hv hi => ifs e fun hs e9 => ?_
  obtain ⟨q1, q2, q3⟩ := q
  obtain ⟨p1, p2, p3, p4, rfl⟩ := revForm_some hf
  obtain ⟨h1, h2, hst, hk1, hk2⟩ := hm
  obtain rfl : q1 = _ := h1
  obtain rfl : q2 = _ := h2
  exact ex_rev S X G F ha T hst (isK_inv hk1) (isK_inv hk2) hv hi hs e9

theorem ex1_ok (S : EvSound W hb n r) (Ts : TsSound W hb n r) (Fr : FrSound W hb n r) (X : ExSound W hb n r) (G : Gl W hb) (Io : IoSound W hb G.fn n r) (F : FrOk env sc) (ha : AOk A n) (T : St W hb env sc Mo ioL s0 om (Vof ρ) s) {st : Stmt} {fl : Fl}
    (e : ex1 r theDefs (fun sc ρ t body => whileA r sc t body 64 ρ) (forA r) sc ρ st = some (fl, ρ')) : wpAny W.md A (exec st env) (Post W hb env sc Mo ioL s0 om s fl ρ') E s := by
  induction st using Stmt.casesOn with
  | Return x p =>
    refine bnd (show x.bind _ = _ from e) fun y h1 e => mpd e fun v h2 h3 => ?_
    cases h3
    rw [h1]
    exact ex_return S F ha T (clean_inv h2)
  | Assign ts value p =>
    refine bnd (show (one ts).bind _ = _ from e) fun t h1 e => ?_
    rw [one_inv h1]
    exact exAssign_ok S Fr G Io F ha T e
  | AugAssign t op value p => exact exAug_ok S F ha T e
  | Expr x p => exact exExpr_ok S G Io F ha T e
  | If t body orelse p => exact bnd (show (r.ts _ _ _).bind _ = _ from e) fun c h1 e => ex_if Ts X F ha T h1 e
  | While t body orelse p =>
    refine ifs (show (if orelse.isEmpty = true then _ else none) = _ from e) fun h1 e => ?_
    rw [isEmpty_inv h1]
    exact ex_while Ts X F ha T e
  | For t it body orelse p =>
    refine ifs (show (if orelse.isEmpty = true then _ else none) = _ from e) fun h1 e => ?_
    rw [isEmpty_inv h1]
    exact exFor_ok S X G F ha T e
  | Break p => cases e; exact ex_break T
  | Continue p => cases e; exact ex_continue T
  | Assert t m p =>
    refine ifs (show (if m.isNone = true ∧ r.ts ⟨sc, none⟩ ρ t = some true then _ else none) = _ from e) fun h1 e => ?_
    cases e
    exact ex_assert Ts F ha T h1.2
  | _ => exact none_ne e

theorem exs_ok (S : EvSound W hb n r) (Ts : TsSound W hb n r) (Fr : FrSound W hb n r) (X : ExSound W hb n r) (G : Gl W hb) (Io : IoSound W hb G.fn n r) : ExSound W hb (n + 1) ⟨r.ev, r.ts, exs r theDefs, r.call⟩ := by
  intro sc ρ body
  induction body generalizing ρ with
  | nil =>
    intro fl ρ' e env Mo ioL s0 om A s E ha F T
    cases e
    exact wpAny_execs_nil (.next T .refl)
  | cons st rest ih =>
    intro fl ρ' e env Mo ioL s0 om A s E ha F T
    refine bnd (show (ex1 _ _ _ _ _ _ _).bind _ = _ from e) fun p h1 e => ?_
    obtain ⟨fl1, ρ1⟩ := p
    refine wpAny_execs_cons (wpAny_mono (ex1_ok S Ts Fr X G Io F ha.down T h1) (fun f s1 hp => ?_) fun _ _ q => q)
    obtain ⟨om1, hf, T1, k1⟩ := hp
    cases f with
    | next => cases fl1 with
      | next => exact wpAny_mono (ih ρ1 fl ρ' e env Mo ioL s0 om1 A s1 E ha F T1) (fun f s2 h => h.after k1) fun _ _ q => q
      | _ => exact hf.elim
    | brk => cases fl1 with
      | brk => cases e; exact ⟨om1, hf, T1, k1⟩
      | _ => exact hf.elim
    | cont => cases fl1 with
      | cont => cases e; exact ⟨om1, hf, T1, k1⟩
      | _ => exact hf.elim
    | ret u => cases fl1 with
      | ret v => cases e; exact ⟨om1, hf, T1, k1⟩
      | _ => exact hf.elim
end
end Mine

end

/-! part Call1 -/
section
set_option maxRecDepth 10000
set_option autoImplicit false
set_option linter.unusedVariables false
namespace Mine
open PySem PySem.W PyProof.Rows

/-! calls -/

noncomputable def defOk (d : Def) : Bool := d.sc.kind == .function && !d.sc.isCoroutine && !d.sc.isGenerator && decide (d.sc.names.map (·.1)).Nodup && decide d.params.Nodup &&
  d.params.all fun p => d.sc.names.lookup p == some .local || d.sc.names.lookup p == some .cell
theorem defs_ok : (theDefs.all fun p => defOk p.2) = true := by decide +kernel

structure DefOk (d : Def) : Prop where
  kind : d.sc.kind = .function
  co : d.sc.isCoroutine = false
  gen : d.sc.isGenerator = false
  nod : (d.sc.names.map (·.1)).Nodup
  pnod : d.params.Nodup
  par : ∀ p ∈ d.params, d.sc.names.lookup p = some .local ∨ d.sc.names.lookup p = some .cell

theorem def_ok {f : Str} {d : Def} (h : theDefs.lookup f = some d) : DefOk d := by
  have := List.all_eq_true.mp defs_ok (f, d) (mem_of_lookup h)
  simp only [defOk, Bool.and_eq_true, beq_iff_eq, Bool.not_eq_true', decide_eq_true_eq, List.all_eq_true, Bool.or_eq_true] at this
  obtain ⟨⟨⟨⟨⟨h1, h2⟩, h3⟩, h4⟩, h5⟩, h6⟩ := this
  exact ⟨h1, h2, h3, h4, h5, h6⟩

theorem cellsFrom_keys : ∀ (names : List (Str × NameKind)) (n : Nat) (acc : List (Str × Addr)) (x : Str), (x, NameKind.cell) ∈ names ∨ x ∈ acc.map (·.1) → x ∈ (cellsFrom n names acc).map (·.1)
  | [], n, acc, x, h => h.elim (fun q => nomatch q) id
  | (y, k) :: r, n, acc, x, h => by
    unfold cellsFrom
    split
    · rename_i hk
      refine cellsFrom_keys r _ _ x ?_
      rcases h with h | h
      · rcases List.mem_cons.mp h with e | h
        · cases e; exact .inr (by simp)
        · exact .inl h
      · exact .inr (by simp at h ⊢; exact .inr h)
    · rename_i hk
      refine cellsFrom_keys r _ _ x ?_
      rcases h with h | h
      · rcases List.mem_cons.mp h with e | h
        · cases e; exact absurd rfl hk
        · exact .inl h
      · exact .inr h

theorem cellsFrom_nod : ∀ (names : List (Str × NameKind)) (n : Nat) (acc : List (Str × Addr)), (names.map (·.1)).Nodup → (acc.map (·.1)).Nodup → (∀ x ∈ names.map (·.1), x ∉ acc.map (·.1)) → ((cellsFrom n names acc).map (·.1)).Nodup
  | [], n, acc, _, h, _ => h
  | (y, k) :: r, n, acc, hn, ha, hd => by
    simp only [List.map_cons, List.nodup_cons] at hn
    unfold cellsFrom
    split
    · refine cellsFrom_nod r _ _ hn.2 ?_ fun x hx q => ?_
      · simp only [List.map_cons, List.nodup_cons]
        exact ⟨hd y (by simp), ha⟩
      · simp only [List.map_cons, List.mem_cons] at q
        rcases q with rfl | q
        · exact hn.1 hx
        · exact hd x (by simp only [List.map_cons, List.mem_cons]; exact .inr hx) q
    · exact cellsFrom_nod r _ _ hn.2 ha fun x hx q => hd x (by simp only [List.map_cons, List.mem_cons]; exact .inr hx) q

theorem lookup_of_mem {α : Type} : ∀ {l : List (Str × α)} {x : Str} {c : α}, (l.map (·.1)).Nodup → (x, c) ∈ l → l.lookup x = some c
  | (k, v) :: r, x, c, hn, h => by
    simp only [List.map_cons, List.nodup_cons] at hn
    rw [List.lookup_cons]
    rcases List.mem_cons.mp h with e | h
    · cases e; simp
    · have : (x == k) = false := by
        simp only [beq_eq_false_iff_ne, ne_eq]
        intro q
        exact hn.1 (List.mem_map.mpr ⟨(x, c), h, q⟩)
      rw [this]
      exact lookup_of_mem hn.2 h

theorem bind_at (kd : Str → Option NameKind) : ∀ (binds : List (Str × Value)) (m cm : Str → Option Value) (x : Str) (u : Value), (binds.map (·.1)).Nodup → binds.lookup x = some u →
    (kd x = some .local → bindL kd binds m x = some u) ∧ (kd x = some .cell → bindC kd binds cm x = some u) := by
  have keepL : ∀ (binds : List (Str × Value)) (m : Str → Option Value) (x : Str), x ∉ binds.map (·.1) → bindL kd binds m x = m x := by
    intro binds
    induction binds with
    | nil => intro m x _; rfl
    | cons p r ih =>
      intro m x h
      obtain ⟨y, v⟩ := p
      simp only [List.map_cons, List.mem_cons, not_or] at h
      unfold bindL
      rw [ih _ _ h.2]
      split
      · simp [h.1]
      · rfl
  have keepC : ∀ (binds : List (Str × Value)) (m : Str → Option Value) (x : Str), x ∉ binds.map (·.1) → bindC kd binds m x = m x := by
    intro binds
    induction binds with
    | nil => intro m x _; rfl
    | cons p r ih =>
      intro m x h
      obtain ⟨y, v⟩ := p
      simp only [List.map_cons, List.mem_cons, not_or] at h
      unfold bindC
      rw [ih _ _ h.2]
      split
      · rfl
      · simp [h.1]
  intro binds
  induction binds with
  | nil => intro m cm x u _ h; cases h
  | cons p r ih =>
    intro m cm x u hn h
    obtain ⟨y, v⟩ := p
    simp only [List.map_cons, List.nodup_cons] at hn
    rw [List.lookup_cons] at h
    unfold bindL bindC
    by_cases hxy : x = y
    · subst hxy
      simp only [beq_self_eq_true] at h
      cases h
      refine ⟨fun hk => ?_, fun hk => ?_⟩
      · rw [keepL _ _ _ hn.1, if_pos hk]; simp
      · rw [keepC _ _ _ hn.1, if_neg (by rw [hk]; decide)]; simp
    · have : (x == y) = false := by simpa using hxy
      rw [this] at h
      exact ih _ _ x u hn.2 h

section
variable {W : Wd} {hb : Heap} {A : Around} {E : Value → Shared → Prop} {s s' : Shared} {M : List Addr} {r : Rec} {n : Nat}

/-- arguments and variables -/
inductive ArgsOk (W : Wd) (h : Heap) (M ioL : List Addr) : List Value → List Var → Prop
  | nil : ArgsOk W h M ioL [] []
  | frz {u us v vs} : Rp W (vis h M) u v → ArgsOk W h M ioL us vs → ArgsOk W h M ioL (u :: us) (.frz v :: vs)
  | io {a us v vs} : a ∈ ioL → OwnAt W h (vis h M) a v → ArgsOk W h M ioL us vs → ArgsOk W h M ioL (.ref a :: us) (.io v :: vs)

theorem ArgsOk.len {h : Heap} {ioL : List Addr} : ∀ {us : List Value} {vs : List Var}, ArgsOk W h M ioL us vs → us.length = vs.length
  | _, _, .nil => rfl
  | _, _, .frz _ h => by simp [h.len]
  | _, _, .io _ _ h => by simp [h.len]
theorem ArgsOk.at_ {h : Heap} {ioL : List Addr} : ∀ {ps : List Str} {us : List Value} {vs : List Var} {x : Str} {w : Var}, ArgsOk W h M ioL us vs → (ps.zip vs).lookup x = some w →
    ∃ u, (ps.zip us).lookup x = some u ∧ (match w with | .frz v => Rp W (vis h M) u v | .io v => ∃ a, u = .ref a ∧ a ∈ ioL ∧ OwnAt W h (vis h M) a v | .own _ => False)
  | [], _, _, _, _, _, e => by simp at e
  | p :: ps, _, _, x, w, .nil, e => by simp at e
  | p :: ps, _, _, x, w, .frz h1 h2, e => by
    rw [List.zip_cons_cons, List.lookup_cons] at e
    rw [List.zip_cons_cons, List.lookup_cons]
    split at e
    · cases e; rename_i hb; exact ⟨_, rfl, h1⟩
    · rename_i hb; exact ArgsOk.at_ h2 e
  | p :: ps, _, _, x, w, .io h1 h2 h3, e => by
    rw [List.zip_cons_cons, List.lookup_cons] at e
    rw [List.zip_cons_cons, List.lookup_cons]
    split at e
    · cases e; rename_i hb; exact ⟨_, rfl, _, rfl, h1, h2⟩
    · rename_i hb; exact ArgsOk.at_ h3 e

noncomputable def firstIo : List Var → Prop
  | .io _ :: vs => ∀ w ∈ vs, ∀ v, w ≠ .io v
  | vs => ∀ w ∈ vs, ∀ v, w ≠ .io v

theorem zip_lookup_mem {α : Type} : ∀ {ps : List Str} {vs : List α} {x : Str} {w : α}, (ps.zip vs).lookup x = some w → x ∈ ps ∧ w ∈ vs
  | [], _, _, _, e => by simp at e
  | _ :: _, [], _, _, e => by simp at e
  | p :: ps, v :: vs, x, w, e => by
    rw [List.zip_cons_cons, List.lookup_cons] at e
    split at e
    · rename_i hb; cases e; exact ⟨by rw [beq_iff_eq.mp hb]; exact List.mem_cons_self, List.mem_cons_self⟩
    · obtain ⟨h1, h2⟩ := zip_lookup_mem e; exact ⟨List.mem_cons_of_mem _ h1, List.mem_cons_of_mem _ h2⟩

theorem call_run (X : ExSound W hb n r) (G : Gl W hb) {f : Str} {d : Def} (hd : theDefs.lookup f = some d) (ha : AOk A (n + 1)) (base : HLe hb s.heap) (hbd : Bd M s.heap) {ioL : List Addr} (hio : ∀ a ∈ ioL, hb.get? a = none ∧ a ∈ M)
    {vals : List Value} {vars : List Var} (hargs : ArgsOk W s.heap M ioL vals vars) (hlen : d.params.length = vars.length) (hone : ∀ x y v w, (d.params.zip vars).lookup x = some (.io v) → (d.params.zip vars).lookup y = some (.io w) → x = y)
    {fl : Fl} {ρ' : R} (e : r.ex d.sc ⟨d.params.zip vars, []⟩ d.body = some (fl, ρ')) {Q : Value → Shared → Prop}
    (hQ : ∀ env om' f s', FlOk W (vis s'.heap (mm om' env M)) f fl → St W hb env d.sc M ioL s om' (Vof ρ') s' → Q (match f with | .ret v => v | _ => .none) s') : wpAny W.md A (call (.ref (G.fn f)) vals) Q E s := by
  obtain ⟨o, fd, ho, hdat, hfn⟩ := G.fns f d hd
  have dk := def_ok hd
  refine wpAny_call ?_
  have hbase : ∀ b o, hb.get? b = some o → s.heap.get? b = some o := base
  have hvl : vals.length = d.params.length := by rw [hargs.len, hlen]
  refine codeAny_call_cells (Nat.lt_of_le_of_lt (Nat.le_add_right _ _) ha.depth) (base _ _ ho) hdat (G.nolim.keeps hbase) (by obtain ⟨c, o, vs, t, q⟩ := hfn.code; exact ⟨c, o, vs, t, q.1, base _ _ q.2.1, q.2.2⟩) hfn.body (hfn.bind vals hvl) hfn.clo ?_ ?_
    (by rw [hfn.scope]; exact dk.co) (by rw [hfn.scope]; exact dk.gen) (by rw [hfn.scope]; exact dk.kind)
  · intro x hx
    rw [hfn.scope]
    have hp : x.1 ∈ d.params := (List.of_mem_zip (a := x.1) (b := x.2) hx).1
    rcases dk.par _ hp with h | h
    · exact .inl h
    · obtain ⟨a, ha'⟩ := lookup_some (cellsFrom_keys d.sc.names (s.heap.objs.size + 1) [] x.1 (.inl (mem_of_lookup h)))
      exact .inr ⟨h, by rw [ha']; rfl⟩
  · intro s₁ x₁
    generalize hen : callEnvC fd s.heap.objs.size (G.fn f) = env at x₁ ⊢
    have hL : env.locals = s.heap.objs.size := by rw [← hen]; rfl
    have hsc : env.scope = d.sc := by rw [← hen]; exact hfn.scope
    have hcells : env.cells = cellsFrom (s.heap.objs.size + 1) d.sc.names [] := by rw [← hen]; show cellsFrom _ fd.scope.names [] = _; rw [hfn.scope]
    have hcn : (env.cells.map (·.1)).Nodup := by rw [hcells]; exact cellsFrom_nod _ _ _ dk.nod List.nodup_nil (by simp)
    have F : FrOk env d.sc := ⟨hsc, dk.kind, by rw [← hen]; exact hfn.glo, by rw [← hen]; exact hfn.blt, fun x h => by
      rw [hcells]; exact lookup_some (cellsFrom_keys d.sc.names _ [] x (.inl (mem_of_lookup h)))⟩
    have k : Kept s s₁ := by
      obtain ⟨h₁, tk, rfl⟩ := x₁.toInCall.same
      exact ⟨h₁, tk, rfl, fun b o _ q => x₁.toInCall.keep b o q⟩
    have dead : ∀ a ∈ FM env, s.heap.get? a = none := fun a h => by
      rcases List.mem_cons.mp h with rfl | h
      · rw [hL]; exact get_new _
      · obtain ⟨p, hp, rfl⟩ := List.mem_map.mp h
        exact fresh_none _ _ (by have := x₁.above p.1 p.2 hp; rw [hL] at this; exact Nat.le_of_lt this)
    have hcell : ∀ x c, env.cells.lookup x = some c → ∃ v, s₁.heap.IsCell c v := fun x c h => ⟨_, x₁.cell x c h⟩
    have T : St W hb env d.sc M ioL s [] (Vof ⟨d.params.zip vars, []⟩) s₁ := by
      refine ⟨base, hio, .of_kept k, fun a h => ?_, fun a h => dead a h, ?_, fun a h q => ?_, ⟨_, x₁.toInCall.ns⟩, hcell, hone, fun x w hk hx => ?_⟩
      · have h : a ∈ FM env ++ M := h
        rcases List.mem_append.mp h with h | h
        · rcases List.mem_cons.mp h with rfl | h
          · obtain ⟨o, _, _, q, _⟩ := x₁.toInCall.ns; exact ⟨o, q⟩
          · obtain ⟨p, hp, rfl⟩ := List.mem_map.mp h
            obtain ⟨v, o, q, _⟩ := hcell p.1 p.2 (lookup_of_mem hcn hp)
            exact ⟨o, q⟩
        · obtain ⟨o, q⟩ := hbd a h; exact ⟨o, k.get (by simp) q⟩
      · refine List.nodup_cons.mpr ⟨fun q => ?_, ?_⟩
        · obtain ⟨p, hp, e⟩ := List.mem_map.mp q
          have := x₁.above p.1 p.2 hp
          rw [e] at this
          exact Nat.lt_irrefl _ this
        · exact List.pairwise_map.mpr x₁.apart
      · obtain ⟨o, ho'⟩ := hbd a q
        rw [dead a h] at ho'; cases ho'
      · obtain ⟨u, hu, hw⟩ := hargs.at_ (ps := d.params) hx
        have hp := (zip_lookup_mem hx).1
        have hnz : ((d.params.zip vals).map (·.1)).Nodup := by
          rw [List.map_fst_zip (by omega)]; exact dk.pnod
        obtain ⟨b1, b2⟩ := bind_at env.kindOf (d.params.zip vals) (fun _ => none) (fun _ => none) x u hnz hu
        have gl : GLe (vis s.heap M) (vis s₁.heap (mm [] env M)) := gle_vis (fun b o _ q => k.get (by simp) q) fun a h => by
          have h : a ∈ FM env ++ M := h
          rcases List.mem_append.mp h with h | h
          · exact .inr (dead a h)
          · exact .inl h
        refine ⟨u, ?_, ?_⟩
        · cases w with
          | frz v => exact Rp.mono gl hw
          | io v => obtain ⟨a, e1, e2, e3⟩ := hw; exact ⟨a, e1, e2, e3.mono (fun _ q => k.get (by simp) q) gl⟩
          | own v => exact hw.elim
        · have hkk : env.kindOf x = d.sc.names.lookup x := by show env.scope.names.lookup x = _; rw [hsc]
          rcases dk.par _ hp with h | h
          · exact .inl ⟨hkk.trans h, _, x₁.toInCall.ns, b1 (hkk.trans h)⟩
          · obtain ⟨c, hc⟩ := F.cel x h
            refine .inr ⟨hkk.trans h, c, hc, ?_⟩
            have := x₁.cell x c hc
            rwa [b2 (hkk.trans h)] at this
    have ha' : AOk (A.deeper env) n := ⟨ha.handled, by show A.depth + 1 + n < _; have := ha.depth; omega, by show A.units + 3 + _ + _ < _; have := ha.units; omega⟩
    refine wpAny_mono (X _ _ _ _ _ e env M ioL s [] (A.deeper env) s₁ _ ha' F T) (fun fw s' hp => ?_) fun _ _ q => q
    obtain ⟨om', hf, T', _⟩ := hp
    exact hQ env om' fw s' hf T'
end
end Mine

end

/-! part Call2 -/
section
set_option maxRecDepth 10000
set_option autoImplicit false
set_option linter.unusedVariables false
namespace Mine
open PySem PySem.W PyProof.Rows

section
variable {W : Wd} {hb : Heap} {r : Rec} {n : Nat}

theorem args_frz {h : Heap} {M : List Addr} : ∀ {us : List Value} {vs : List AV}, RpL W (vis h M) us vs → ∀ ioL, ArgsOk W h M ioL us (vs.map .frz)
  | _, _, .nil, _ => .nil
  | _, _, .cons h1 h2, ioL => .frz h1 (args_frz h2 ioL)

theorem frz_arg (vs : List AV) : (vs.map Var.frz).map argVar = vs.map .frz := by
  rw [List.map_map]; rfl

theorem ret_spec {fl : Fl} {v : AV} (e : retV fl = some v) : fl = .ret v ∨ (fl = .next ∧ v = .none) := by
  cases fl with
  | ret w => cases e; exact .inl rfl
  | next => cases e; exact .inr ⟨rfl, rfl⟩
  | _ => exact none_ne e

theorem ret_rp {fl : Fl} {v : AV} {f : Flow} {g : G} (h : fl = .ret v ∨ (fl = .next ∧ v = .none)) : FlOk W g f fl → Rp W g (match f with | .ret v => v | _ => .none) v := by
  intro hf
  rcases h with rfl | ⟨rfl, rfl⟩
  · cases f <;> first | exact hf | exact hf.elim
  · cases f <;> first | exact .none | exact hf.elim

theorem mm_sub {om : List (Str × Addr)} {env : Env} {Mo : List Addr} : ∀ a ∈ Mo, a ∈ mm om env Mo := fun a h => List.mem_append_right _ (List.mem_append_right _ h)

theorem call_ok (X : ExSound W hb n r) (G : Gl W hb) : CallSound W hb G.fn (n + 1) ⟨r.ev, r.ts, r.ex, callA r theDefs⟩ := by
  intro f vs v hl e M A s E vals ha base hbd rv
  refine bnd e fun d hd e => ifs e fun hlen e => bnd e fun p hx e => bnd e fun w hw e => ?_
  obtain ⟨fl, ρ'⟩ := p
  have hv : w = v := ifb e (fun _ e => bnd e fun x _ e => mpd e fun c _ q => by cases q) fun _ e => (Prod.mk.inj (Option.some.inj e)).1
  subst hv
  have hr := ret_spec hw
  rw [frz_arg] at hx
  refine call_run X G hd ha base hbd (ioL := []) (fun a h => nomatch h) (args_frz rv []) (by simpa using hlen) (fun x y v w h => ?_) hx fun env om' f' s' hf T => ⟨T.moves, (ret_rp hr hf).mono (gle_less mm_sub)⟩
  obtain ⟨_, hm⟩ := zip_lookup_mem h
  obtain ⟨z, _, hz⟩ := List.mem_map.mp hm
  cases hz

theorem ioV_inv {w : Option Var} {c : AV} (e : w.bind ioV = some c) : w = some (.io c) := bnd e fun w h1 e => by
  cases w with
  | io u => exact h1.trans (congrArg (fun u => some (Var.io u)) (Option.some.inj e))
  | _ => exact none_ne e
theorem io_ok (X : ExSound W hb n r) (G : Gl W hb) : IoSound W hb G.fn (n + 1) ⟨r.ev, r.ts, r.ex, callA r theDefs⟩ := by
  intro f c vs v c' hl e M A s E a vals ha base hbd ham hown hdead rv
  refine bnd e fun d hd e => ifs e fun hlen e => bnd e fun q hx e => bnd e fun w hw e => ifb e (fun _ e => bnd e fun p hp e => mpd e fun cc hlk hcc => ?_) fun h _ => absurd rfl h
  obtain ⟨fl, ρ'⟩ := q
  cases hcc
  have hr := ret_spec hw
  have hp := head_tail hp
  have hlk := ioV_inv hlk
  rw [List.map_cons, frz_arg] at hx
  have hkind : kind ⟨d.sc, none⟩ p = some .var := by
    rcases (def_ok hd).par p (by rw [hp]; exact List.mem_cons_self) with h | h <;> exact bndI h rfl
  have only : ∀ {x v}, (d.params.zip (Var.io c :: vs.map .frz)).lookup x = some (.io v) → x = p := fun {x v} h => by
    rw [hp, List.zip_cons_cons, List.lookup_cons] at h
    split at h
    · rename_i hb'; exact beq_iff_eq.mp hb'
    · obtain ⟨_, hm⟩ := zip_lookup_mem h
      obtain ⟨z, _, hz⟩ := List.mem_map.mp hm
      cases hz
  refine call_run X G hd ha base hbd (ioL := [a]) (fun b h => by simp at h; rw [h]; exact ⟨hdead, ham⟩) (vars := .io c :: vs.map .frz) (.io (by simp) hown (args_frz rv [a])) (by simpa using hlen) (fun x y v w h1 h2 => (only h1).trans (only h2).symm) hx fun env om' f' s' hf T => ?_
  obtain ⟨u, ⟨a', e1, e2, e3⟩, _⟩ := T.vars p _ hkind hlk
  simp only [List.mem_singleton] at e2
  subst e2
  exact ⟨T.moves, (ret_rp hr hf).mono (gle_less mm_sub), e3.mono (fun _ q => q) (gle_less mm_sub)⟩

/-- everything at once -/
structure AllSound (W : Wd) (hb : Heap) (fn : Str → Addr) (n : Nat) (r : Rec) : Prop where
  ev : EvSound W hb n r
  ts : TsSound W hb n r
  fr : FrSound W hb n r
  ex : ExSound W hb n r
  call : CallSound W hb fn n r
  io : IoSound W hb fn n r

theorem sound (G : Gl W hb) : ∀ n, AllSound W hb G.fn n (recA theDefs n)
  | 0 => by
    refine ⟨?_, ?_, ?_, ?_, ?_, ?_⟩
    · intro _ _ _ _ e; (first | exact none_ne e | obtain rfl := Option.some.inj e | cases e)
    · intro _ _ _ _ e; (first | exact none_ne e | obtain rfl := Option.some.inj e | cases e)
    · intro _ _ _ _ _ e; (first | exact none_ne e | obtain rfl := Option.some.inj e | cases e)
    · intro _ _ _ _ _ e; (first | exact none_ne e | obtain rfl := Option.some.inj e | cases e)
    · intro _ _ _ _ e; (first | exact none_ne e | obtain rfl := Option.some.inj e | cases e)
    · intro _ _ _ _ _ _ e; (first | exact none_ne e | obtain rfl := Option.some.inj e | cases e)
  | n + 1 => by
    have h := sound G n
    exact ⟨evA_ok G h.ev h.ts h.call, tsA_ok h.ev h.ts, fr_ok G h.ev h.ts, exs_ok h.ev h.ts h.fr h.ex G h.io, call_ok h.ex G, io_ok h.ex G⟩
end
end Mine

end

/-! part Hd0 -/
section
set_option Elab.async false
set_option maxRecDepth 100000
set_option maxHeartbeats 8000000
namespace Mine
open PySem PySem.W PyProof.Rows
noncomputable def q0 : Program := view PySem.Challenge.pw_pg0157_01 [1, 2, 4, 5, 6, 7, 9, 10, 11, 12, 14, 15, 16, 17, 18, 19, 20, 21]
theorem w_names : namesResolve PySem.Challenge.rw_pg0157_01.row.prog = true := by kernel_rfl
theorem w_attr : (namesMeet PySem.Challenge.rw_pg0157_01.row.prog PySem.Challenge.rw_pg0157_01.row.prog.main.body fun _ n => attrL n) = true := by kernel_rfl
theorem w_road : noRoadLSs { strict := !(importedModules PySem.Challenge.rw_pg0157_01.row.prog.main.body).all cThrough.contains, foot := none, bare := (["vars", "dir", "locals"] : List Str).filter (readsOut PySem.Challenge.rw_pg0157_01.row.prog PySem.Challenge.rw_pg0157_01.row.prog.main.body) } PySem.Challenge.rw_pg0157_01.row.prog.main.body = true := by kernel_rfl
theorem w_foot : noRoadLSs { strict := true, foot := some PySem.Challenge.rw_pg0157_01.bound', writes := PySem.Challenge.rw_pg0157_01.writes, may := PySem.Challenge.rw_pg0157_01.may } PySem.Challenge.rw_pg0157_01.footing = true := by kernel_rfl
theorem w_bound : (PySem.Challenge.rw_pg0157_01.bound'.all fun n => !builtinNamed n || PySem.Challenge.rw_pg0157_01.about == [n] || !PySem.Challenge.rw_pg0157_01.reads n) = true := by kernel_rfl
theorem said0 : PySem.Challenge.rw_pg0157_01.wellSaid = true := by
  unfold OpenLaw.wellSaid OpenRow.wellSaid OpenRow.partSaid looksOpen
  repeat' (with_reducible apply look_both)
  all_goals first | with_reducible exact w_names | with_reducible exact w_attr | with_reducible exact w_road | with_reducible exact w_foot | with_reducible exact w_bound | kernel_rfl
theorem w_ch : chainsOk q0 = true := by kernel_rfl
theorem w_op : opensWell PySem.Challenge.rw_pg0157_01.row.prog = true := by kernel_rfl
theorem w_fr : (frees PySem.Challenge.rw_pg0157_01.row.toRowW && PySem.Challenge.rw_pg0157_01.row.within.isEmpty) = true := by kernel_rfl
theorem w_bare : PySem.Challenge.rw_pg0157_01.row.prog.bare := ⟨rfl, rfl, rfl, rfl, rfl, by decide +kernel⟩
theorem w_wr : (!PySem.Challenge.rw_pg0157_01.row.writes || PySem.Challenge.rw_pg0157_01.row.toRowW.records.isEmpty) = true := by rfl
theorem head_by (H : Hook) {d : DefRec} {kwd : List (Str × PySem.Expr)} (k1 : (PySem.Challenge.rw_pg0157_01.row).wellSaid = true) (hdef : defOf q0 PySem.Challenge.rw_pg0157_01.row.name = some (d, kwd)) (hp : PySem.Challenge.rw_pg0157_01.row.prog.theDef PySem.Challenge.rw_pg0157_01.row.name = some (d.params, d.body, d.scope)) (hk : kwWritten? d.params.kwonlyargs d.params.kw_defaults = some kwd)
    (hl : LeftO PySem.Challenge.rw_pg0157_01.row.prog q0 [] (fun s => xlAt q0 [] s && recOk (RowW.records PySem.Challenge.rw_pg0157_01.row.toRowW) s) (Hook.obs H) (Hook.val H) 1722) (hw : PySem.Challenge.rw_pg0157_01.row.toRowW.promised) (hc : WalkO q0 [] (XL q0 []) (Hook.says H) PySem.Challenge.rw_pg0157_01.row.toRowW d kwd fun f vs => PySem.call f vs) : PySem.Challenge.rw_pg0157_01.row.Holds :=
  holds_open (r := PySem.Challenge.rw_pg0157_01.row) hl (Hook.of H) (Hook.keeps H) (fun s e => xl_of s (Bool.and_eq_true_iff.mp e).1) XL.keeps hdef hp hk (fun s e => recFacts_of (Bool.and_eq_true_iff.mp e).2) w_wr k1 (look_both (look_both w_ch w_op) w_fr) w_bare hw hc
local macro_rules | `(tactic| o_law) => `(tactic| refine holds_law said0 fun said => ?_)
local macro_rules | `(tactic| o_head $H:term) => `(tactic| (refine head_by $H (by assumption) (by rfl) (by rfl) (by rfl) ?hl ?hw ?hc; (case hl => intro w; kernel_rfl)))
open_top hd for PySem.Challenge.rw_pg0157_01
end Mine

end

/-! part Top1 -/
section
set_option maxRecDepth 100000
set_option autoImplicit false
set_option linter.unusedVariables false
namespace Mine
open PySem PySem.W PyProof.Rows

/-! the functions of the start heap -/

noncomputable def fdOf (K : Frag) (a : Addr) : Option FuncData := match K.lookup a with
  | some ⟨_, _, .func fd, _⟩ => some fd
  | _ => none

structure FnK (K : Frag) (fd : FuncData) (d : Def) : Prop where
  code : codeIn K fd.code fd.qualname = true
  body : fd.body = .stmts d.body
  scope : fd.scope = d.sc
  clo : fd.closure = []
  glo : fd.globals = mainGlobals
  blt : fd.builtins = builtinsNs
  bind : ∀ vals, vals.length = d.params.length → bindArgs fd ⟨vals, []⟩ = pure (d.params.zip vals)

theorem fnAt_of {K : Frag} {h : Heap} {a : Addr} {fd : FuncData} {d : Def} (X : K.In h) (e : fdOf K a = some fd) (k : FnK K fd d) : FnAt h a d := by
  unfold fdOf at e
  split at e
  · rename_i c dd fd' sl hk
    cases e
    exact ⟨_, _, X _ _ hk, rfl, ⟨codeRec_of X k.code, k.body, k.scope, k.clo, k.glo, k.blt, k.bind⟩⟩
  · cases e

noncomputable def dN (i : Nat) : Def := (theDefs[i]?.map (·.2)).getD ⟨[], [], ⟨.function, [], false, false, []⟩⟩
noncomputable def KP (P : Params) : Frag := hd.heap_1 P

theorem bind_0 {fd : FuncData} {ps : List Str} (n : ps.length = 0) (h : bindArgs fd ⟨[], []⟩ = pure (ps.zip [])) : ∀ vals, vals.length = ps.length → bindArgs fd ⟨vals, []⟩ = pure (ps.zip vals)
  | [], _ => h
  | _ :: _, e => by rw [n] at e; cases e
theorem bind_1 {fd : FuncData} {ps : List Str} (n : ps.length = 1) (h : ∀ a, bindArgs fd ⟨[a], []⟩ = pure (ps.zip [a])) : ∀ vals, vals.length = ps.length → bindArgs fd ⟨vals, []⟩ = pure (ps.zip vals)
  | [], e => by rw [n] at e; cases e
  | [a], _ => h a
  | _ :: _ :: _, e => by rw [n] at e; cases e
theorem bind_2 {fd : FuncData} {ps : List Str} (n : ps.length = 2) (h : ∀ a b, bindArgs fd ⟨[a, b], []⟩ = pure (ps.zip [a, b])) : ∀ vals, vals.length = ps.length → bindArgs fd ⟨vals, []⟩ = pure (ps.zip vals)
  | [], e => by rw [n] at e; cases e
  | [a], e => by rw [n] at e; cases e
  | [a, b], _ => h a b
  | _ :: _ :: _ :: _, e => by rw [n] at e; cases e
theorem bind_3 {fd : FuncData} {ps : List Str} (n : ps.length = 3) (h : ∀ a b c, bindArgs fd ⟨[a, b, c], []⟩ = pure (ps.zip [a, b, c])) : ∀ vals, vals.length = ps.length → bindArgs fd ⟨vals, []⟩ = pure (ps.zip vals)
  | [], e => by rw [n] at e; cases e
  | [a], e => by rw [n] at e; cases e
  | [a, b], e => by rw [n] at e; cases e
  | [a, b, c], _ => h a b c
  | _ :: _ :: _ :: _ :: _, e => by rw [n] at e; cases e

theorem fk_0 (P : Params) : ∃ fd, fdOf (KP P) 21 = some fd ∧ FnK (KP P) fd (dN 0) := by
  refine ⟨(fdOf (KP P) 21).get (by kernel_rfl), by kernel_rfl, by kernel_rfl, by kernel_rfl, by kernel_rfl, by kernel_rfl, by kernel_rfl, by kernel_rfl, bind_2 (by kernel_rfl) (fun a b => by kernel_rfl)⟩

theorem fk_1 (P : Params) : ∃ fd, fdOf (KP P) 28 = some fd ∧ FnK (KP P) fd (dN 1) := by
  refine ⟨(fdOf (KP P) 28).get (by kernel_rfl), by kernel_rfl, by kernel_rfl, by kernel_rfl, by kernel_rfl, by kernel_rfl, by kernel_rfl, by kernel_rfl, bind_1 (by kernel_rfl) (fun a => by kernel_rfl)⟩

theorem fk_2 (P : Params) : ∃ fd, fdOf (KP P) 35 = some fd ∧ FnK (KP P) fd (dN 2) := by
  refine ⟨(fdOf (KP P) 35).get (by kernel_rfl), by kernel_rfl, by kernel_rfl, by kernel_rfl, by kernel_rfl, by kernel_rfl, by kernel_rfl, by kernel_rfl, bind_1 (by kernel_rfl) (fun a => by kernel_rfl)⟩

theorem fk_3 (P : Params) : ∃ fd, fdOf (KP P) 42 = some fd ∧ FnK (KP P) fd (dN 3) := by
  refine ⟨(fdOf (KP P) 42).get (by kernel_rfl), by kernel_rfl, by kernel_rfl, by kernel_rfl, by kernel_rfl, by kernel_rfl, by kernel_rfl, by kernel_rfl, bind_3 (by kernel_rfl) (fun a b c => by kernel_rfl)⟩

theorem fk_4 (P : Params) : ∃ fd, fdOf (KP P) 49 = some fd ∧ FnK (KP P) fd (dN 4) := by
  refine ⟨(fdOf (KP P) 49).get (by kernel_rfl), by kernel_rfl, by kernel_rfl, by kernel_rfl, by kernel_rfl, by kernel_rfl, by kernel_rfl, by kernel_rfl, bind_2 (by kernel_rfl) (fun a b => by kernel_rfl)⟩

theorem fk_5 (P : Params) : ∃ fd, fdOf (KP P) 70 = some fd ∧ FnK (KP P) fd (dN 5) := by
  refine ⟨(fdOf (KP P) 70).get (by kernel_rfl), by kernel_rfl, by kernel_rfl, by kernel_rfl, by kernel_rfl, by kernel_rfl, by kernel_rfl, by kernel_rfl, bind_3 (by kernel_rfl) (fun a b c => by kernel_rfl)⟩

theorem fk_6 (P : Params) : ∃ fd, fdOf (KP P) 84 = some fd ∧ FnK (KP P) fd (dN 6) := by
  refine ⟨(fdOf (KP P) 84).get (by kernel_rfl), by kernel_rfl, by kernel_rfl, by kernel_rfl, by kernel_rfl, by kernel_rfl, by kernel_rfl, by kernel_rfl, bind_2 (by kernel_rfl) (fun a b => by kernel_rfl)⟩

theorem fk_7 (P : Params) : ∃ fd, fdOf (KP P) 91 = some fd ∧ FnK (KP P) fd (dN 7) := by
  refine ⟨(fdOf (KP P) 91).get (by kernel_rfl), by kernel_rfl, by kernel_rfl, by kernel_rfl, by kernel_rfl, by kernel_rfl, by kernel_rfl, by kernel_rfl, bind_2 (by kernel_rfl) (fun a b => by kernel_rfl)⟩

theorem fk_8 (P : Params) : ∃ fd, fdOf (KP P) 98 = some fd ∧ FnK (KP P) fd (dN 8) := by
  refine ⟨(fdOf (KP P) 98).get (by kernel_rfl), by kernel_rfl, by kernel_rfl, by kernel_rfl, by kernel_rfl, by kernel_rfl, by kernel_rfl, by kernel_rfl, bind_1 (by kernel_rfl) (fun a => by kernel_rfl)⟩

theorem fk_9 (P : Params) : ∃ fd, fdOf (KP P) 103 = some fd ∧ FnK (KP P) fd (dN 9) := by
  refine ⟨(fdOf (KP P) 103).get (by kernel_rfl), by kernel_rfl, by kernel_rfl, by kernel_rfl, by kernel_rfl, by kernel_rfl, by kernel_rfl, by kernel_rfl, bind_0 (by kernel_rfl) (by kernel_rfl)⟩

theorem fk_10 (P : Params) : ∃ fd, fdOf (KP P) 110 = some fd ∧ FnK (KP P) fd (dN 10) := by
  refine ⟨(fdOf (KP P) 110).get (by kernel_rfl), by kernel_rfl, by kernel_rfl, by kernel_rfl, by kernel_rfl, by kernel_rfl, by kernel_rfl, by kernel_rfl, bind_2 (by kernel_rfl) (fun a b => by kernel_rfl)⟩

theorem fk_11 (P : Params) : ∃ fd, fdOf (KP P) 117 = some fd ∧ FnK (KP P) fd (dN 11) := by
  refine ⟨(fdOf (KP P) 117).get (by kernel_rfl), by kernel_rfl, by kernel_rfl, by kernel_rfl, by kernel_rfl, by kernel_rfl, by kernel_rfl, by kernel_rfl, bind_1 (by kernel_rfl) (fun a => by kernel_rfl)⟩

theorem fk_12 (P : Params) : ∃ fd, fdOf (KP P) 122 = some fd ∧ FnK (KP P) fd (dN 12) := by
  refine ⟨(fdOf (KP P) 122).get (by kernel_rfl), by kernel_rfl, by kernel_rfl, by kernel_rfl, by kernel_rfl, by kernel_rfl, by kernel_rfl, by kernel_rfl, bind_1 (by kernel_rfl) (fun a => by kernel_rfl)⟩

theorem fk_13 (P : Params) : ∃ fd, fdOf (KP P) 127 = some fd ∧ FnK (KP P) fd (dN 13) := by
  refine ⟨(fdOf (KP P) 127).get (by kernel_rfl), by kernel_rfl, by kernel_rfl, by kernel_rfl, by kernel_rfl, by kernel_rfl, by kernel_rfl, by kernel_rfl, bind_1 (by kernel_rfl) (fun a => by kernel_rfl)⟩

theorem fk_14 (P : Params) : ∃ fd, fdOf (KP P) 132 = some fd ∧ FnK (KP P) fd (dN 14) := by
  refine ⟨(fdOf (KP P) 132).get (by kernel_rfl), by kernel_rfl, by kernel_rfl, by kernel_rfl, by kernel_rfl, by kernel_rfl, by kernel_rfl, by kernel_rfl, bind_1 (by kernel_rfl) (fun a => by kernel_rfl)⟩

theorem fk_15 (P : Params) : ∃ fd, fdOf (KP P) 137 = some fd ∧ FnK (KP P) fd (dN 15) := by
  refine ⟨(fdOf (KP P) 137).get (by kernel_rfl), by kernel_rfl, by kernel_rfl, by kernel_rfl, by kernel_rfl, by kernel_rfl, by kernel_rfl, by kernel_rfl, bind_2 (by kernel_rfl) (fun a b => by kernel_rfl)⟩

theorem fk_16 (P : Params) : ∃ fd, fdOf (KP P) 142 = some fd ∧ FnK (KP P) fd (dN 16) := by
  refine ⟨(fdOf (KP P) 142).get (by kernel_rfl), by kernel_rfl, by kernel_rfl, by kernel_rfl, by kernel_rfl, by kernel_rfl, by kernel_rfl, by kernel_rfl, bind_1 (by kernel_rfl) (fun a => by kernel_rfl)⟩

end Mine

end

/-! part Top2 -/
section
set_option maxRecDepth 100000
set_option autoImplicit false
set_option linter.unusedVariables false
namespace Mine
open PySem PySem.W PyProof.Rows

noncomputable def fnA (f : Str) : Addr := (([(sN "_ellipsis_match", 21), (sN "heappop", 28), (sN "heapify", 35), (sN "_siftdown", 42), (sN "_siftup", 49), (sN "compare", 70), (sN "add_func_stats", 84), (sN "add_callers", 91), (sN "count_calls", 98), (sN "_law_orders", 103), (sN "_law_votes", 110), (sN "_law_counted", 117), (sN "_law_locked", 122), (sN "_law_row", 127), (sN "_law_weights", 132), (sN "_law_attained", 137), (sN "law", 142) ] : List (Str × Addr)).lookup f).getD 0

theorem defs_eq : theDefs = [(sN "_ellipsis_match", dN 0), (sN "heappop", dN 1), (sN "heapify", dN 2), (sN "_siftdown", dN 3), (sN "_siftup", dN 4), (sN "compare", dN 5), (sN "add_func_stats", dN 6), (sN "add_callers", dN 7), (sN "count_calls", dN 8), (sN "_law_orders", dN 9), (sN "_law_votes", dN 10), (sN "_law_counted", dN 11), (sN "_law_locked", dN 12), (sN "_law_row", dN 13), (sN "_law_weights", dN 14), (sN "_law_attained", dN 15), (sN "law", dN 16)] := by kernel_rfl

theorem fns_ok (P : Params) {h : Heap} (X : (KP P).In h) : ∀ f d, theDefs.lookup f = some d → FnAt h (fnA f) d := by
  intro f d hf
  have hm := mem_of_lookup hf
  rw [defs_eq] at hm
  simp only [List.mem_cons, List.not_mem_nil, or_false, Prod.mk.injEq] at hm
  rcases hm with ⟨rfl, rfl⟩ | ⟨rfl, rfl⟩ | ⟨rfl, rfl⟩ | ⟨rfl, rfl⟩ | ⟨rfl, rfl⟩ | ⟨rfl, rfl⟩ | ⟨rfl, rfl⟩ | ⟨rfl, rfl⟩ | ⟨rfl, rfl⟩ | ⟨rfl, rfl⟩ | ⟨rfl, rfl⟩ | ⟨rfl, rfl⟩ | ⟨rfl, rfl⟩ | ⟨rfl, rfl⟩ | ⟨rfl, rfl⟩ | ⟨rfl, rfl⟩ | ⟨rfl, rfl⟩
  · obtain ⟨fd, e, k⟩ := fk_0 P
    have ha : fnA (sN "_ellipsis_match") = 21 := by kernel_rfl
    rw [ha]; exact fnAt_of X e k
  · obtain ⟨fd, e, k⟩ := fk_1 P
    have ha : fnA (sN "heappop") = 28 := by kernel_rfl
    rw [ha]; exact fnAt_of X e k
  · obtain ⟨fd, e, k⟩ := fk_2 P
    have ha : fnA (sN "heapify") = 35 := by kernel_rfl
    rw [ha]; exact fnAt_of X e k
  · obtain ⟨fd, e, k⟩ := fk_3 P
    have ha : fnA (sN "_siftdown") = 42 := by kernel_rfl
    rw [ha]; exact fnAt_of X e k
  · obtain ⟨fd, e, k⟩ := fk_4 P
    have ha : fnA (sN "_siftup") = 49 := by kernel_rfl
    rw [ha]; exact fnAt_of X e k
  · obtain ⟨fd, e, k⟩ := fk_5 P
    have ha : fnA (sN "compare") = 70 := by kernel_rfl
    rw [ha]; exact fnAt_of X e k
  · obtain ⟨fd, e, k⟩ := fk_6 P
    have ha : fnA (sN "add_func_stats") = 84 := by kernel_rfl
    rw [ha]; exact fnAt_of X e k
  · obtain ⟨fd, e, k⟩ := fk_7 P
    have ha : fnA (sN "add_callers") = 91 := by kernel_rfl
    rw [ha]; exact fnAt_of X e k
  · obtain ⟨fd, e, k⟩ := fk_8 P
    have ha : fnA (sN "count_calls") = 98 := by kernel_rfl
    rw [ha]; exact fnAt_of X e k
  · obtain ⟨fd, e, k⟩ := fk_9 P
    have ha : fnA (sN "_law_orders") = 103 := by kernel_rfl
    rw [ha]; exact fnAt_of X e k
  · obtain ⟨fd, e, k⟩ := fk_10 P
    have ha : fnA (sN "_law_votes") = 110 := by kernel_rfl
    rw [ha]; exact fnAt_of X e k
  · obtain ⟨fd, e, k⟩ := fk_11 P
    have ha : fnA (sN "_law_counted") = 117 := by kernel_rfl
    rw [ha]; exact fnAt_of X e k
  · obtain ⟨fd, e, k⟩ := fk_12 P
    have ha : fnA (sN "_law_locked") = 122 := by kernel_rfl
    rw [ha]; exact fnAt_of X e k
  · obtain ⟨fd, e, k⟩ := fk_13 P
    have ha : fnA (sN "_law_row") = 127 := by kernel_rfl
    rw [ha]; exact fnAt_of X e k
  · obtain ⟨fd, e, k⟩ := fk_14 P
    have ha : fnA (sN "_law_weights") = 132 := by kernel_rfl
    rw [ha]; exact fnAt_of X e k
  · obtain ⟨fd, e, k⟩ := fk_15 P
    have ha : fnA (sN "_law_attained") = 137 := by kernel_rfl
    rw [ha]; exact fnAt_of X e k
  · obtain ⟨fd, e, k⟩ := fk_16 P
    have ha : fnA (sN "law") = 142 := by kernel_rfl
    rw [ha]; exact fnAt_of X e k

theorem fng_ok (P : Params) {h : Heap} {mg : Str → Option Value} (X : (KP P).In h) (G : h.Ns mainGlobals mg) : ∀ f, isDef f theDefs = true → mg f = some (.ref (fnA f)) := by
  intro f hf
  unfold isDef at hf
  obtain ⟨hne, hl⟩ := Bool.and_eq_true_iff.mp hf
  obtain ⟨d, hd⟩ := Option.isSome_iff_exists.mp hl
  have hm := mem_of_lookup hd
  rw [defs_eq] at hm
  simp only [List.mem_cons, List.not_mem_nil, or_false, Prod.mk.injEq] at hm
  have hne := of_decide_eq_true hne
  rcases hm with ⟨rfl, rfl⟩ | ⟨rfl, rfl⟩ | ⟨rfl, rfl⟩ | ⟨rfl, rfl⟩ | ⟨rfl, rfl⟩ | ⟨rfl, rfl⟩ | ⟨rfl, rfl⟩ | ⟨rfl, rfl⟩ | ⟨rfl, rfl⟩ | ⟨rfl, rfl⟩ | ⟨rfl, rfl⟩ | ⟨rfl, rfl⟩ | ⟨rfl, rfl⟩ | ⟨rfl, rfl⟩ | ⟨rfl, rfl⟩ | ⟨rfl, rfl⟩ | ⟨rfl, rfl⟩
  · have ha : fnA (sN "_ellipsis_match") = 21 := by kernel_rfl
    rw [ha]; exact mg_of X G (by kernel_rfl)
  · have ha : fnA (sN "heappop") = 28 := by kernel_rfl
    rw [ha]; exact mg_of X G (by kernel_rfl)
  · have ha : fnA (sN "heapify") = 35 := by kernel_rfl
    rw [ha]; exact mg_of X G (by kernel_rfl)
  · have ha : fnA (sN "_siftdown") = 42 := by kernel_rfl
    rw [ha]; exact mg_of X G (by kernel_rfl)
  · have ha : fnA (sN "_siftup") = 49 := by kernel_rfl
    rw [ha]; exact mg_of X G (by kernel_rfl)
  · exact absurd rfl hne
  · have ha : fnA (sN "add_func_stats") = 84 := by kernel_rfl
    rw [ha]; exact mg_of X G (by kernel_rfl)
  · have ha : fnA (sN "add_callers") = 91 := by kernel_rfl
    rw [ha]; exact mg_of X G (by kernel_rfl)
  · have ha : fnA (sN "count_calls") = 98 := by kernel_rfl
    rw [ha]; exact mg_of X G (by kernel_rfl)
  · have ha : fnA (sN "_law_orders") = 103 := by kernel_rfl
    rw [ha]; exact mg_of X G (by kernel_rfl)
  · have ha : fnA (sN "_law_votes") = 110 := by kernel_rfl
    rw [ha]; exact mg_of X G (by kernel_rfl)
  · have ha : fnA (sN "_law_counted") = 117 := by kernel_rfl
    rw [ha]; exact mg_of X G (by kernel_rfl)
  · have ha : fnA (sN "_law_locked") = 122 := by kernel_rfl
    rw [ha]; exact mg_of X G (by kernel_rfl)
  · have ha : fnA (sN "_law_row") = 127 := by kernel_rfl
    rw [ha]; exact mg_of X G (by kernel_rfl)
  · have ha : fnA (sN "_law_weights") = 132 := by kernel_rfl
    rw [ha]; exact mg_of X G (by kernel_rfl)
  · have ha : fnA (sN "_law_attained") = 137 := by kernel_rfl
    rw [ha]; exact mg_of X G (by kernel_rfl)
  · have ha : fnA (sN "law") = 142 := by kernel_rfl
    rw [ha]; exact mg_of X G (by kernel_rfl)

/-- the class's __init__ as it lies there -/
noncomputable def dI (P : Params) : Def := ⟨[sN "self", csl], match fdOf (KP P) 63 with | some fd => (match fd.body with | .stmts b => b | _ => []) | _ => [], ((fdOf (KP P) 63).map fun fd => fd.scope).getD ⟨.function, [], false, false, []⟩⟩
theorem fk_I (P : Params) : ∃ fd, fdOf (KP P) 63 = some fd ∧ FnK (KP P) fd (dI P) := by
  refine ⟨(fdOf (KP P) 63).get (by kernel_rfl), by kernel_rfl, by kernel_rfl, by kernel_rfl, by kernel_rfl, by kernel_rfl, by kernel_rfl, by kernel_rfl, bind_2 (by kernel_rfl) (fun a b => by kernel_rfl)⟩
theorem init_at (P : Params) {h : Heap} (X : (KP P).In h) : ∃ d, FnAt h 63 d ∧ InitOk d := by
  obtain ⟨fd, e, k⟩ := fk_I P
  exact ⟨dI P, fnAt_of X e k, rfl, by kernel_rfl, by kernel_rfl, by kernel_rfl, by kernel_rfl, by kernel_rfl, ⟨73, 8, 73, 12⟩, ⟨73, 8, 73, 29⟩, ⟨73, 32, 73, 48⟩, ⟨73, 8, 73, 48⟩, by kernel_rfl⟩

theorem bi_ok (P : Params) {h : Heap} {mg mb : Str → Option Value} (X : (KP P).In h) (G : h.Ns mainGlobals mg) (B : ∀ x : Str, x ≠ "__name__" → mb x = bootBuiltins x) :
    ∀ n ∈ ["len", "sum", "min", "max", "isinstance"], mg (sN n) = none ∧ mb (sN n) = some (.builtin n) := by
  intro n hn
  simp only [List.mem_cons, List.not_mem_nil, or_false] at hn
  rcases hn with rfl | rfl | rfl | rfl | rfl
  all_goals exact ⟨mg_none_of X G (by kernel_rfl), (B _ (by decide)).trans (by kernel_rfl)⟩
theorem ty_ok (P : Params) {h : Heap} {mg mb : Str → Option Value} (X : (KP P).In h) (G : h.Ns mainGlobals mg) (B : ∀ x : Str, x ≠ "__name__" → mb x = bootBuiltins x) :
    ∀ n ∈ ["range", "reversed", "tuple"], mg (sN n) = none ∧ mb (sN n) = some (.type n) := by
  intro n hn
  simp only [List.mem_cons, List.not_mem_nil, or_false] at hn
  rcases hn with rfl | rfl | rfl
  all_goals exact ⟨mg_none_of X G (by kernel_rfl), (B _ (by decide)).trans (by kernel_rfl)⟩

noncomputable def gl (prog : Program) (w : World) {h : Heap} {mg mb : Str → Option Value} (X : (KP w.params).In h) (G : h.Ns mainGlobals mg) (Gb : h.Ns builtinsNs mb) (hl : h.NoLimit) (B : ∀ x : Str, x ≠ "__name__" → mb x = bootBuiltins x) : Gl ⟨prog, w, 73⟩ h where
  K := KP w.params
  kin := X
  mg := mg
  mb := mb
  nsg := G
  nsb := Gb
  nolim := hl
  ell := ⟨189, mg_of X G (by kernel_rfl)⟩
  fn := fnA
  fns := fns_ok _ X
  fng := fng_ok _ X G
  bi := bi_ok _ X G B
  ty := ty_ok _ X G B
  tc := mg_of X G (by kernel_rfl)
  fI := 63
  mkC := by kernel_rfl
  init := by kernel_rfl
  initAt := init_at _ X
  setA := by kernel_rfl
  over := by kernel_rfl
  taker := by kernel_rfl
  initFn := by kernel_rfl
  keep := by kernel_rfl
  getA := by kernel_rfl
  hasD := by kernel_rfl
  cslA := by kernel_rfl
  cmp := by kernel_rfl
  cmpFn := by kernel_rfl
end Mine

end

/-! part Top3 -/
section
set_option Elab.async false
set_option maxRecDepth 100000
set_option maxHeartbeats 8000000
set_option autoImplicit false
set_option linter.unusedVariables false
namespace Mine
open PySem PySem.W PyProof.Rows

theorem rpl_ints {W : Wd} {g : G} : ∀ {vs : List Value} {l : List Int}, IntsAre vs l → RpL W g vs (l.map .int)
  | _, _, .nil => .nil
  | _, _, .cons n t h => .cons (.int n t) (rpl_ints h)

theorem well_list {P : Params} {h : Heap} {a : Addr} {d : PyData} {xs : List PyData} (w : Well P h (.ref a) (ofPy d)) (e : d = .list xs) : ∃ vs : List Value, h.get? a = some { cls := .type "list", data := .seq vs.toArray } := by
  subst e
  have e : ofPy (.list xs) = .list (ofPys xs) := by
    simp [ofPy]
  rw [e] at w
  cases w with
  | list h1 _ => exact ⟨_, h1⟩

theorem top (hp : ∀ l : List Int, ¬ ((63 : Int) < l.length) → (recA theDefs 60).call (sN "law") [.frz (.list (l.map .int))] = some (.bool true, none)) : PySem.Challenge.rw_pg0157_01.Holds := hd (by
  intro w s₀ s₁ mg mb G Y fa o pm cd doc dV kV ho hd hcd hD hmg hg args vals as hpre hlay hrd hwl hlo
  have KX := kIn_of Y
  refine Ground.open G ?_
  intro T B D TE TW
  wrow_args hpre hlay hrd hwl hlo
  rename_i l hs hlay0 hL1 hr1 hl2 as4 as3 a vs as0 hL ra w1 r0 hI hr hcond hcond2
  show wpAny (model _ w) callerA (call (.ref fa) [.ref a]) _ _ _
  have gg := gl PySem.Challenge.rw_pg0157_01.row.prog w KX T.g T.b T.nolimit T.builtins
  have hfa : fa = 142 := by
    have e := mg_of KX T.g (n := Str.ofString "law") (v := .ref 142) (by kernel_rfl)
    have e' := hmg.symm.trans e
    cases e'; rfl
  subst hfa
  obtain ⟨vs', hex⟩ := well_list w1 rfl
  obtain ⟨o', ho', hcl, n', hdat⟩ := hL
  rw [hex] at ho'
  cases ho'
  cases hdat
  have hlaw := hp l hcond
  have hcall := (sound gg 60).call (sN "law") [.list (l.map .int)] (.bool true) (by decide +kernel) hlaw [] callerA s₁ (fun e s' => GoodWG PySem.Challenge.rw_pg0157_01.row.claim (classAt s₀.heap) (ExcName.means s₀.heap) [ofPy (PyData.list (List.map PyData.int l))] s₁ (Except.error e) s') [.ref a]
    ⟨rfl, by decide, by decide⟩ (fun _ _ e => e) (fun _ h => nomatch h) (.cons (.list (vis_iff.mpr ⟨by simp, hex⟩) (by simpa using rpl_ints hI)) .nil)
  have e142 : gg.fn (sN "law") = 142 := by kernel_rfl
  rw [e142] at hcall
  refine wpAny_mono hcall (fun v s' h => ?_) fun _ _ q => q
  obtain ⟨k, hr⟩ := h
  cases hr
  refine GoodW.toG ⟨.inl ⟨_, .bool true, [], rfl, fun _ => ?_, .bool true, ?_, fun _ => ⟨List.nodup_nil, fun _ h => nomatch h⟩⟩, k.hle, ?_, ?_⟩
  · first | rfl | kernel_rfl
  · first | rfl | kernel_rfl
  · obtain ⟨h', tk, rfl, _⟩ := k; rfl
  · obtain ⟨h', tk, rfl, _⟩ := k; exact hg)
end Mine

end

/-! part Heap1 -/
section
set_option autoImplicit false
set_option linter.unusedVariables false
namespace Mine.P

/-! heaps of ints, as heapq keeps them -/

noncomputable def at' (L : List Int) (i : Nat) : Int := L.getD i 0

theorem at_set (L : List Int) (i : Nat) (v : Int) (j : Nat) (hi : i < L.length) : at' (L.set i v) j = if j = i then v else at' L j := by
  unfold at'
  simp only [List.getD_eq_getElem?_getD, List.getElem?_set]
  by_cases h : j = i
  · subst h; simp [hi]
  · simp [h, Ne.symm h]

/-- the while of _siftdown, then the store -/
noncomputable def sdown (s : Nat) (new : Int) : Nat → List Int → Nat → List Int
  | 0, L, p => L.set p new
  | f + 1, L, p => if p > s then (if new < at' L ((p - 1) / 2) then sdown s new f (L.set p (at' L ((p - 1) / 2))) ((p - 1) / 2) else L.set p new) else L.set p new

/-- the smaller child -/
noncomputable def child (L : List Int) (p : Nat) : Nat := if 2 * p + 2 < L.length ∧ ¬ at' L (2 * p + 1) < at' L (2 * p + 2) then 2 * p + 2 else 2 * p + 1

/-- the while of _siftup: where the hole ends -/
noncomputable def descend : Nat → List Int → Nat → List Int × Nat
  | 0, L, p => (L, p)
  | f + 1, L, p => if 2 * p + 1 < L.length then descend f (L.set p (at' L (child L p))) (child L p) else (L, p)

noncomputable def siftup (L : List Int) (p : Nat) : List Int :=
  let r := descend L.length L p
  sdown p (at' L p) L.length (r.1.set r.2 (at' L p)) r.2

/-- edges at and under s, but those at the hole -/
structure Inv (s : Nat) (L : List Int) (p : Nat) : Prop where
  edge : ∀ k, 1 ≤ k → k < L.length → s ≤ (k - 1) / 2 → (k - 1) / 2 ≠ p → k ≠ p → at' L ((k - 1) / 2) ≤ at' L k
  over : s < p → ∀ k, 1 ≤ k → k < L.length → (k - 1) / 2 = p → at' L ((p - 1) / 2) ≤ at' L k

noncomputable def HeapFrom (s : Nat) (L : List Int) : Prop := ∀ k, 1 ≤ k → k < L.length → s ≤ (k - 1) / 2 → at' L ((k - 1) / 2) ≤ at' L k

/-- s lies above p -/
inductive Anc (s : Nat) : Nat → Prop
  | refl : Anc s s
  | up {p : Nat} : 1 ≤ p → Anc s ((p - 1) / 2) → Anc s p
theorem Anc.le {s p : Nat} (h : Anc s p) : s ≤ p := by
  induction h with
  | refl => exact Nat.le_refl _
  | up h1 _ ih => lia
theorem Anc.parent {s p : Nat} (h : Anc s p) (hp : s < p) : Anc s ((p - 1) / 2) := by
  cases h with
  | refl => exact absurd hp (Nat.lt_irrefl _)
  | up _ h => exact h

theorem child_spec {L : List Int} {p : Nat} (h : 2 * p + 1 < L.length) : child L p < L.length ∧ (child L p - 1) / 2 = p ∧ p < child L p ∧ ∀ k, 1 ≤ k → k < L.length → (k - 1) / 2 = p → at' L (child L p) ≤ at' L k := by
  unfold child
  split
  · rename_i h1
    refine ⟨h1.1, by lia, by lia, fun k hk hl hp => ?_⟩
    have : k = 2 * p + 1 ∨ k = 2 * p + 2 := by lia
    rcases this with rfl | rfl
    · have := h1.2; lia
    · exact Int.le_refl _
  · rename_i h1
    refine ⟨h, by lia, by lia, fun k hk hl hp => ?_⟩
    have : k = 2 * p + 1 ∨ k = 2 * p + 2 := by lia
    rcases this with rfl | rfl
    · exact Int.le_refl _
    · have : at' L (2 * p + 1) < at' L (2 * p + 2) := Decidable.byContradiction fun q => h1 ⟨hl, q⟩
      lia

theorem desc_step {s : Nat} {L : List Int} {p : Nat} (I : Inv s L p) (hs : s ≤ p) (h : 2 * p + 1 < L.length) : Inv s (L.set p (at' L (child L p))) (child L p) := by
  obtain ⟨c1, c2, c3, c4⟩ := child_spec h
  have hp : p < L.length := by lia
  refine ⟨fun k hk hl hsk h1 h2 => ?_, fun hsc k hk hl h1 => ?_⟩
  · rw [List.length_set] at hl
    rw [at_set _ _ _ _ hp, at_set _ _ _ _ hp]
    by_cases a : (k - 1) / 2 = p
    · rw [if_pos a, if_neg (by lia)]
      exact c4 k hk hl a
    · rw [if_neg a]
      by_cases b : k = p
      · rw [if_pos b]
        subst b
        exact I.over (by lia) _ (by lia) c1 c2
      · rw [if_neg b]
        exact I.edge k hk hl hsk a b
  · rw [List.length_set] at hl
    rw [at_set _ _ _ _ hp, at_set _ _ _ _ hp, c2, if_pos rfl, if_neg (by lia)]
    have := I.edge k hk hl (by lia) (by lia) (by lia)
    rwa [h1] at this

theorem cons_erase : ∀ (L : List Int) (i : Nat) (h : i < L.length), (L[i] :: L.eraseIdx i).Perm L
  | x :: l, 0, h => .refl _
  | x :: l, i + 1, h => by
    simp only [List.getElem_cons_succ, List.eraseIdx_cons_succ]
    exact (List.Perm.swap _ _ _).trans ((cons_erase l i (by simpa using h)).cons x)

theorem set_perm (L : List Int) (p : Nat) (v : Int) (hp : p < L.length) : (L.set p v).Perm (v :: L.eraseIdx p) := by
  have h := cons_erase (L.set p v) p (by simpa using hp)
  rw [List.getElem_set_self, List.eraseIdx_set_eq] at h
  exact h.symm

theorem at_get (L : List Int) (c : Nat) (hc : c < L.length) : at' L c = L[c] := by
  unfold at'
  simp [List.getD_eq_getElem?_getD, hc]

theorem set_swap (L : List Int) (p c : Nat) (new : Int) (hp : p < L.length) (hc : c < L.length) (hne : p ≠ c) : ((L.set p (at' L c)).set c new).Perm (L.set p new) := by
  have h1 := set_perm (L.set p (at' L c)) c new (by simpa using hc)
  have h2 := set_perm L p new hp
  have h3 := set_perm L p (at' L c) hp
  have h4 := cons_erase (L.set p (at' L c)) c (by simpa using hc)
  rw [List.getElem_set_ne hne, ← at_get L c hc] at h4
  have h5 : ((L.set p (at' L c)).eraseIdx c).Perm (L.eraseIdx p) := (h4.trans h3).cons_inv
  exact h1.trans ((h5.cons new).trans h2.symm)

theorem descend_ok {s : Nat} {new : Int} : ∀ (f : Nat) (L : List Int) (p : Nat), Inv s L p → Anc s p → p < L.length → L.length < f + p + 1 →
    Inv s (descend f L p).1 (descend f L p).2 ∧ Anc s (descend f L p).2 ∧ (descend f L p).2 < L.length ∧ (descend f L p).1.length = L.length ∧ L.length ≤ 2 * (descend f L p).2 + 1 ∧
      ((descend f L p).1.set (descend f L p).2 new).Perm (L.set p new)
  | 0, L, p, I, hs, hp, hf => by lia
  | f + 1, L, p, I, hs, hp, hf => by
    unfold descend
    split
    · rename_i h
      obtain ⟨c1, c2, c3, c4⟩ := child_spec h
      obtain ⟨r1, r2, r3, r4, r5, r6⟩ := descend_ok (s := s) (new := new) f (L.set p (at' L (child L p))) (child L p) (desc_step I hs.le h) (.up (by lia) (by rw [c2]; exact hs)) (by simpa using c1) (by simp; lia)
      simp only [List.length_set] at r3 r4 r5
      exact ⟨r1, r2, r3, r4, r5, r6.trans (set_swap L p (child L p) new hp c1 (by lia))⟩
    · rename_i h
      exact ⟨I, hs, hp, rfl, by lia, .refl _⟩

theorem sdown_ok {s : Nat} {new : Int} : ∀ (f : Nat) (L : List Int) (p : Nat), Inv s L p → (∀ k, 1 ≤ k → k < L.length → (k - 1) / 2 = p → new ≤ at' L k) → Anc s p → p < L.length → p ≤ f →
    HeapFrom s (sdown s new f L p) ∧ (sdown s new f L p).Perm (L.set p new) := by
  have fin : ∀ (L : List Int) (p : Nat), Inv s L p → (∀ k, 1 ≤ k → k < L.length → (k - 1) / 2 = p → new ≤ at' L k) → Anc s p → p < L.length → (s < p → at' L ((p - 1) / 2) ≤ new) → HeapFrom s (L.set p new) := by
    intro L p I low an hp hup k hk hl hsk
    rw [List.length_set] at hl
    rw [at_set _ _ _ _ hp, at_set _ _ _ _ hp]
    by_cases a : (k - 1) / 2 = p
    · rw [if_pos a, if_neg (by lia)]
      exact low k hk hl a
    · rw [if_neg a]
      by_cases b : k = p
      · rw [if_pos b]; subst b
        exact hup (by lia)
      · rw [if_neg b]; exact I.edge k hk hl hsk a b
  intro f
  induction f with
  | zero =>
    intro L p I low an hp hf
    unfold sdown
    exact ⟨fin L p I low an hp (fun h => by lia), .refl _⟩
  | succ f ih =>
    intro L p I low an hp hf
    unfold sdown
    split
    · rename_i hps
      split
      · rename_i hlt
        have hpp : (p - 1) / 2 < p := by lia
        have hne : p ≠ (p - 1) / 2 := by lia
        have han := an.parent hps
        have I1 : Inv s (L.set p (at' L ((p - 1) / 2))) ((p - 1) / 2) := by
          refine ⟨fun k hk hl hsk h1 h2 => ?_, fun hsp k hk hl h1 => ?_⟩
          · rw [List.length_set] at hl
            rw [at_set _ _ _ _ hp, at_set _ _ _ _ hp]
            by_cases a : (k - 1) / 2 = p
            · rw [if_pos a, if_neg (by lia)]
              exact I.over hps k hk hl a
            · rw [if_neg a]
              have b : k ≠ p := fun b => h1 (by rw [b])
              rw [if_neg b]
              exact I.edge k hk hl hsk a b
          · rw [List.length_set] at hl
            have hgp := (han.parent hsp).le
            rw [at_set _ _ _ _ hp, at_set _ _ _ _ hp, if_neg (by lia)]
            have e1 := I.edge ((p - 1) / 2) (by lia) (by lia) hgp (by lia) (by lia)
            by_cases b : k = p
            · rw [if_pos b]; exact e1
            · rw [if_neg b]
              have e2 := I.edge k hk hl (by rw [h1]; exact han.le) (by lia) b
              rw [h1] at e2
              exact Int.le_trans e1 e2
        have low1 : ∀ k, 1 ≤ k → k < (L.set p (at' L ((p - 1) / 2))).length → (k - 1) / 2 = (p - 1) / 2 → new ≤ at' (L.set p (at' L ((p - 1) / 2))) k := by
          intro k hk hl h1
          rw [List.length_set] at hl
          rw [at_set _ _ _ _ hp]
          by_cases b : k = p
          · rw [if_pos b]; lia
          · rw [if_neg b]
            have e2 := I.edge k hk hl (by rw [h1]; exact han.le) (by lia) b
            rw [h1] at e2
            lia
        obtain ⟨r1, r2⟩ := ih (L.set p (at' L ((p - 1) / 2))) ((p - 1) / 2) I1 low1 han (by rw [List.length_set]; lia) (by lia)
        exact ⟨r1, r2.trans (set_swap L p ((p - 1) / 2) new hp (by lia) hne)⟩
      · rename_i hlt
        exact ⟨fin L p I low an hp (fun _ => by lia), .refl _⟩
    · rename_i hps
      exact ⟨fin L p I low an hp (fun h => absurd h hps), .refl _⟩

theorem set_self (L : List Int) (p : Nat) (hp : p < L.length) : L.set p (at' L p) = L := by
  rw [at_get L p hp, List.set_getElem_self]

/-- under p all edges stand, then all from p on -/
theorem siftup_ok {L : List Int} {p : Nat} (hp : p < L.length) (h : HeapFrom (p + 1) L) : HeapFrom p (siftup L p) ∧ (siftup L p).Perm L := by
  have I : Inv p L p := ⟨fun k hk hl hsk h1 h2 => h k hk hl (by lia), fun q => absurd q (Nat.lt_irrefl _)⟩
  obtain ⟨r1, r2, r3, r4, r5, r6⟩ := descend_ok (s := p) (new := at' L p) L.length L p I .refl hp (by lia)
  unfold siftup
  generalize hd : descend L.length L p = r at *
  obtain ⟨L1, q⟩ := r
  dsimp only at *
  have hq : q < L1.length := by lia
  have I2 : Inv p (L1.set q (at' L p)) q := by
    refine ⟨fun k hk hl hsk h1 h2 => ?_, fun hsp k hk hl h1 => ?_⟩
    · rw [List.length_set] at hl
      rw [at_set _ _ _ _ hq, at_set _ _ _ _ hq, if_neg h1, if_neg h2]
      exact r1.edge k hk hl hsk h1 h2
    · rw [List.length_set] at hl
      lia
  have low2 : ∀ k, 1 ≤ k → k < (L1.set q (at' L p)).length → (k - 1) / 2 = q → at' L p ≤ at' (L1.set q (at' L p)) k := by
    intro k hk hl h1
    rw [List.length_set] at hl
    lia
  obtain ⟨s1, s2⟩ := sdown_ok (s := p) (new := at' L p) L.length (L1.set q (at' L p)) q I2 low2 r2 (by rw [List.length_set]; exact hq) (by lia)
  refine ⟨s1, s2.trans ?_⟩
  rw [List.set_set]
  rw [set_self L p hp] at r6
  exact r6
end Mine.P

end

/-! part Heap2 -/
section
set_option autoImplicit false
set_option linter.unusedVariables false
namespace Mine.P

noncomputable def heapifyS (L : List Int) : List Int := (List.range (L.length / 2)).reverse.foldl siftup L

theorem heapify_go (n : Nat) : ∀ (m : Nat) (L : List Int), L.length = n → m ≤ n / 2 → HeapFrom m L → HeapFrom 0 ((List.range m).reverse.foldl siftup L) ∧ ((List.range m).reverse.foldl siftup L).Perm L
  | 0, L, hl, hm, h => ⟨h, .refl _⟩
  | m + 1, L, hl, hm, h => by
    rw [List.range_succ, List.reverse_append, List.reverse_singleton, List.singleton_append, List.foldl_cons]
    obtain ⟨h1, h2⟩ := siftup_ok (L := L) (p := m) (by lia) h
    obtain ⟨h3, h4⟩ := heapify_go n m (siftup L m) (by rw [h2.length_eq, hl]) (by lia) h1
    exact ⟨h3, h4.trans h2⟩

theorem heapify_ok (L : List Int) : HeapFrom 0 (heapifyS L) ∧ (heapifyS L).Perm L :=
  heapify_go L.length (L.length / 2) L rfl (Nat.le_refl _) fun k hk hl hs => by lia

theorem heap_min {L : List Int} (h : HeapFrom 0 L) : ∀ k, k < L.length → at' L 0 ≤ at' L k := by
  intro k
  induction k using Nat.strongRecOn with
  | ind k ih =>
    intro hk
    by_cases h0 : k = 0
    · subst h0; exact Int.le_refl _
    · have h1 := h k (by lia) hk (Nat.zero_le _)
      have h2 := ih ((k - 1) / 2) (by lia) (by lia)
      lia

/-- what is popped, and what is left -/
noncomputable def popS (L : List Int) : Int × List Int :=
  let rest := L.dropLast
  let last := at' L (L.length - 1)
  if rest.isEmpty then (last, []) else (at' rest 0, siftup (rest.set 0 last) 0)

theorem dropLast_at (L : List Int) (k : Nat) (hk : k < L.length - 1) : at' L.dropLast k = at' L k := by
  rw [at_get _ _ (by rw [List.length_dropLast]; lia), at_get _ _ (by lia), List.getElem_dropLast]

theorem popS_ok {L : List Int} (hne : 0 < L.length) (h : HeapFrom 0 L) : HeapFrom 0 (popS L).2 ∧ ((popS L).1 :: (popS L).2).Perm L ∧ ∀ x ∈ (popS L).2, (popS L).1 ≤ x := by
  have hL : L ≠ [] := fun q => by subst q; simp at hne
  have hlast : at' L (L.length - 1) = L.getLast hL := by rw [at_get _ _ (by lia), List.getLast_eq_getElem]
  have hcat : L.dropLast ++ [L.getLast hL] = L := List.dropLast_concat_getLast hL
  unfold popS
  dsimp only
  split
  · rename_i he
    have he := List.isEmpty_iff.mp he
    refine ⟨fun k hk hl _ => by simp at hl, ?_, fun x hx => nomatch hx⟩
    rw [hlast]
    rw [he, List.nil_append] at hcat
    rw [hcat]
  · rename_i he
    have hlen : 0 < L.dropLast.length := by
      cases q : L.dropLast with
      | nil => rw [q] at he; simp at he
      | cons a l => simp
    have hl2 : L.dropLast.length = L.length - 1 := List.length_dropLast
    have hh : HeapFrom (0 + 1) (L.dropLast.set 0 (at' L (L.length - 1))) := by
      intro k hk hl hs
      rw [List.length_set] at hl
      rw [at_set _ _ _ _ hlen, at_set _ _ _ _ hlen, if_neg (by lia), if_neg (by lia), dropLast_at _ _ (by lia), dropLast_at _ _ (by lia)]
      exact h k hk (by lia) (Nat.zero_le _)
    obtain ⟨r1, r2⟩ := siftup_ok (L := L.dropLast.set 0 (at' L (L.length - 1))) (p := 0) (by rw [List.length_set]; exact hlen) hh
    have p1 := set_perm L.dropLast 0 (at' L (L.length - 1)) hlen
    have p2 := cons_erase L.dropLast 0 hlen
    have perm : (at' L.dropLast 0 :: siftup (L.dropLast.set 0 (at' L (L.length - 1))) 0).Perm L := by
      refine ((r2.trans p1).cons _).trans ?_
      refine (List.Perm.swap _ _ _).trans ?_
      rw [at_get _ _ hlen]
      refine (p2.cons _).trans ?_
      rw [hlast]
      have : (L.getLast hL :: L.dropLast).Perm (L.dropLast ++ [L.getLast hL]) := (List.perm_append_singleton _ _).symm
      rw [hcat] at this
      exact this
    refine ⟨r1, perm, fun x hx => ?_⟩
    have hx' : x ∈ L := perm.subset (List.mem_cons_of_mem _ hx)
    obtain ⟨k, hk, rfl⟩ := List.mem_iff_getElem.mp hx'
    rw [dropLast_at _ _ (by lia), ← at_get _ _ hk]
    exact heap_min h k hk
end Mine.P

end

/-! part Lock1 -/
section
set_option autoImplicit false
set_option linter.unusedVariables false
namespace Mine.P

/-! ranked pairs -/

noncomputable abbrev Rel := Nat → Nat → Bool

noncomputable def lock (P : Rel) (p : Nat × Nat) : Rel := if P p.2 p.1 then P else fun u v => P u v || (P u p.1 && P p.2 v)
noncomputable def lockAll (P : Rel) (ps : List (Nat × Nat)) : Rel := ps.foldl lock P
noncomputable def P0 : Rel := fun u v => u == v

structure Ord (P : Rel) : Prop where
  refl : ∀ u, P u u = true
  trans : ∀ u v w, P u v = true → P v w = true → P u w = true
  anti : ∀ u v, P u v = true → P v u = true → u = v

theorem P0_ord : Ord P0 := ⟨fun u => by simp [P0], fun u v w h1 h2 => by simp [P0] at *; lia, fun u v h1 h2 => by simpa [P0] using h1⟩

theorem lock_le {P : Rel} {p : Nat × Nat} : ∀ u v, P u v = true → lock P p u v = true := fun u v h => by
  unfold lock
  split
  · exact h
  · simp [h]
theorem lockAll_le : ∀ (ps : List (Nat × Nat)) (P : Rel) (u v : Nat), P u v = true → lockAll P ps u v = true
  | [], P, u, v, h => h
  | p :: ps, P, u, v, h => lockAll_le ps (lock P p) u v (lock_le u v h)

theorem lock_ord {P : Rel} {p : Nat × Nat} (h : Ord P) : Ord (lock P p) := by
  unfold lock
  split
  · exact h
  · rename_i hn
    refine ⟨fun u => by simp [h.refl], fun u v w h1 h2 => ?_, fun u v h1 h2 => ?_⟩
    · simp only [Bool.or_eq_true, Bool.and_eq_true] at *
      rcases h1 with h1 | ⟨h1, h1'⟩ <;> rcases h2 with h2 | ⟨h2, h2'⟩
      · exact .inl (h.trans _ _ _ h1 h2)
      · exact .inr ⟨h.trans _ _ _ h1 h2, h2'⟩
      · exact .inr ⟨h1, h.trans _ _ _ h1' h2⟩
      · exact .inr ⟨h1, h2'⟩
    · simp only [Bool.or_eq_true, Bool.and_eq_true] at *
      rcases h1 with h1 | ⟨h1, h1'⟩ <;> rcases h2 with h2 | ⟨h2, h2'⟩
      · exact h.anti _ _ h1 h2
      · exact absurd (h.trans _ _ _ h2' (h.trans _ _ _ h1 h2)) hn
      · exact absurd (h.trans _ _ _ h1' (h.trans _ _ _ h2 h1)) hn
      · exact absurd (h.trans _ _ _ h1' h2) hn
theorem lockAll_ord : ∀ (ps : List (Nat × Nat)) (P : Rel), Ord P → Ord (lockAll P ps)
  | [], P, h => h
  | p :: ps, P, h => lockAll_ord ps (lock P p) (lock_ord h)

theorem lock_pair {P : Rel} {p : Nat × Nat} (h : Ord P) (hn : ¬ P p.2 p.1 = true) : lock P p p.1 p.2 = true := by
  unfold lock
  rw [if_neg hn]
  simp [h.refl]

theorem lockAll_append (P : Rel) (a b : List (Nat × Nat)) : lockAll P (a ++ b) = lockAll (lockAll P a) b := by
  unfold lockAll; rw [List.foldl_append]

/-- every pair that came is ordered -/
theorem lock_total {P : Rel} {p : Nat × Nat} (h : Ord P) : lock P p p.1 p.2 = true ∨ lock P p p.2 p.1 = true := by
  by_cases hn : P p.2 p.1 = true
  · exact .inr (lock_le _ _ hn)
  · exact .inl (lock_pair h hn)
theorem lockAll_total (ps : List (Nat × Nat)) (P : Rel) (h : Ord P) (p : Nat × Nat) (hp : p ∈ ps) : lockAll P ps p.1 p.2 = true ∨ lockAll P ps p.2 p.1 = true := by
  obtain ⟨a, b, rfl⟩ := List.append_of_mem hp
  rw [lockAll_append]
  show lockAll (lock (lockAll P a) p) b p.1 p.2 = true ∨ _
  rcases lock_total (p := p) (lockAll_ord a P h) with q | q
  · exact .inl (lockAll_le b (lock (lockAll P a) p) _ _ q)
  · exact .inr (lockAll_le b (lock (lockAll P a) p) _ _ q)

/-- what another order shares with the last one, as far as they agree -/
theorem agree_le {T σ : Rel} (hσ : Ord σ) : ∀ (ps : List (Nat × Nat)) (P : Rel), (∀ u v, P u v = true → σ u v = true) → Ord P → (∀ u v, lockAll P ps u v = true → T u v = true) → (∀ p ∈ ps, T p.1 p.2 = σ p.1 p.2) →
    ∀ u v, lockAll P ps u v = true → σ u v = true
  | [], P, h, _, _, _ => h
  | p :: ps, P, h, ho, hT, ha => by
    refine agree_le hσ ps (lock P p) (fun u v huv => ?_) (lock_ord ho) hT fun q hq => ha q (List.mem_cons_of_mem _ hq)
    by_cases hn : P p.2 p.1 = true
    · unfold lock at huv
      rw [if_pos hn] at huv
      exact h u v huv
    · have hxy : σ p.1 p.2 = true := by
        rw [← ha p List.mem_cons_self]
        exact hT _ _ (lockAll_le ps _ _ _ (lock_pair ho hn))
      unfold lock at huv
      rw [if_neg hn] at huv
      simp only [Bool.or_eq_true, Bool.and_eq_true] at huv
      rcases huv with q | ⟨q1, q2⟩
      · exact h u v q
      · exact hσ.trans _ _ _ (h _ _ q1) (hσ.trans _ _ _ hxy (h _ _ q2))

/-- at the first pair where another order differs from the last one, the last one has the pair as it came -/
theorem best {σ : Rel} (hσ : Ord σ) (a b : List (Nat × Nat)) (p : Nat × Nat) (hne : p.1 ≠ p.2) (ha : ∀ q ∈ a, lockAll P0 (a ++ p :: b) q.1 q.2 = σ q.1 q.2) (hd : lockAll P0 (a ++ p :: b) p.1 p.2 ≠ σ p.1 p.2) :
    lockAll P0 (a ++ p :: b) p.1 p.2 = true ∧ σ p.1 p.2 = false := by
  have e : lockAll P0 (a ++ p :: b) = lockAll (lock (lockAll P0 a) p) b := by rw [lockAll_append]; rfl
  have hag := agree_le (T := lockAll P0 (a ++ p :: b)) hσ a P0 (fun u v h => by simp [P0] at h; rw [h]; exact hσ.refl v) P0_ord (fun u v h => by rw [e]; exact lockAll_le _ _ _ _ (lock_le _ _ h)) ha
  by_cases hn : lockAll P0 a p.2 p.1 = true
  · have h1 := hag _ _ hn
    have h2 : σ p.1 p.2 = false := by
      cases q : σ p.1 p.2 with
      | false => rfl
      | true => exact absurd (hσ.anti _ _ q h1) hne
    have h3 : lockAll P0 (a ++ p :: b) p.1 p.2 = true := by
      cases q : lockAll P0 (a ++ p :: b) p.1 p.2 with
      | true => rfl
      | false => exact absurd (q.trans h2.symm) hd
    exact ⟨h3, h2⟩
  · have h3 : lockAll P0 (a ++ p :: b) p.1 p.2 = true := by
      rw [e]; exact lockAll_le _ _ _ _ (lock_pair (lockAll_ord a P0 P0_ord) hn)
    refine ⟨h3, ?_⟩
    cases q : σ p.1 p.2 with
    | false => rfl
    | true => exact absurd (h3.trans q.symm) hd

/-- what is reached is reached through links that came before -/
theorem paths {T : Rel} (hT : Ord T) {turn B : Nat → Nat → Int} (h1 : ∀ u v, u ≠ v → T u v = true → B u v ≤ turn u v) (h2 : ∀ u z v, u ≠ z → z ≠ v → T u z = true → T z v = true → B u v ≤ max (B u z) (B z v)) {m : Int} :
    ∀ (ps : List (Nat × Nat)) (P : Rel), Ord P → (∀ p ∈ ps, p.1 ≠ p.2 ∧ turn p.1 p.2 ≤ m) → (∀ u v, lockAll P ps u v = true → T u v = true) → (∀ u v, u ≠ v → P u v = true → B u v ≤ m) → ∀ u v, u ≠ v → lockAll P ps u v = true → B u v ≤ m
  | [], P, _, _, _, h => h
  | p :: ps, P, ho, hp, hle, h => by
    refine paths hT h1 h2 ps (lock P p) (lock_ord ho) (fun q hq => hp q (List.mem_cons_of_mem _ hq)) hle fun u v huv hl => ?_
    by_cases hn : P p.2 p.1 = true
    · unfold lock at hl
      rw [if_pos hn] at hl
      exact h u v huv hl
    · obtain ⟨hne, hm⟩ := hp p List.mem_cons_self
      have hTle : ∀ u v, lock P p u v = true → T u v = true := fun u v q => hle u v (lockAll_le ps _ _ _ q)
      have hxy := hTle _ _ (lock_pair ho hn)
      unfold lock at hl
      rw [if_neg hn] at hl
      simp only [Bool.or_eq_true, Bool.and_eq_true] at hl
      rcases hl with q | ⟨q1, q2⟩
      · exact h u v huv q
      · have bxy : B p.1 p.2 ≤ m := Int.le_trans (h1 _ _ hne hxy) hm
        have tyv := hTle _ _ (lock_le _ _ q2)
        have tux := hTle _ _ (lock_le _ _ q1)
        have bxv : B p.1 v ≤ m := by
          by_cases e : p.2 = v
          · rw [← e]; exact bxy
          · have := h2 p.1 p.2 v hne e hxy tyv
            have := h _ _ e q2
            lia
        by_cases e : u = p.1
        · rw [e]; exact bxv
        · have hxv : p.1 ≠ v := fun q => hne (hT.anti _ _ hxy (by rw [q]; exact tyv))
          have := h2 u p.1 v e hxv tux (hT.trans _ _ _ hxy tyv)
          have := h _ _ e q1
          lia

theorem attained {turn B : Nat → Nat → Int} (a b : List (Nat × Nat)) (p : Nat × Nat) (hne : p.1 ≠ p.2) (hap : ∀ q ∈ a, q.1 ≠ q.2 ∧ turn q.1 q.2 < turn p.1 p.2)
    (h1 : ∀ u v, u ≠ v → lockAll P0 (a ++ p :: b) u v = true → B u v ≤ turn u v) (h2 : ∀ u z v, u ≠ z → z ≠ v → lockAll P0 (a ++ p :: b) u z = true → lockAll P0 (a ++ p :: b) z v = true → B u v ≤ max (B u z) (B z v))
    (hT : lockAll P0 (a ++ p :: b) p.2 p.1 = true) : B p.2 p.1 < turn p.1 p.2 := by
  have e : lockAll P0 (a ++ p :: b) = lockAll (lock (lockAll P0 a) p) b := by rw [lockAll_append]; rfl
  have ho := lockAll_ord (a ++ p :: b) P0 P0_ord
  have hn : lockAll P0 a p.2 p.1 = true := by
    cases q : lockAll P0 a p.2 p.1 with
    | true => rfl
    | false =>
      have : lockAll P0 (a ++ p :: b) p.1 p.2 = true := by
        rw [e]; exact lockAll_le _ _ _ _ (lock_pair (lockAll_ord a P0 P0_ord) (by rw [q]; decide))
      exact absurd (ho.anti _ _ this hT) hne
  have := paths ho h1 h2 (m := turn p.1 p.2 - 1) a P0 P0_ord (fun q hq => ⟨(hap q hq).1, by have := (hap q hq).2; lia⟩) (fun u v h => by rw [e]; exact lockAll_le _ _ _ _ (lock_le _ _ h)) (fun u v huv h => by simp [P0] at h; exact absurd h huv) p.2 p.1 hne.symm hn
  lia
end Mine.P

end

/-! part Sym1 -/
section
set_option maxRecDepth 10000
set_option autoImplicit false
set_option linter.unusedVariables false
namespace Mine.P
open PySem

/-! rules to run the abstract interpreter on data that are not closed -/

noncomputable abbrev RR (n : Nat) : Rec := recA theDefs n
noncomputable abbrev exsN (n : Nat) (sc : Scope) (ρ : R) (l : List Stmt) : Option (Fl × R) := exs (RR n) theDefs sc ρ l
noncomputable abbrev ex1N (n : Nat) (sc : Scope) (ρ : R) (s : Stmt) : Option (Fl × R) := ex1 (RR n) theDefs (fun sc ρ t body => whileA (RR n) sc t body 64 ρ) (forA (RR n)) sc ρ s

section
variable {n : Nat} {sc : Scope} {cx : CX} {ρ ρ1 ρ2 ρ' : R} {res : Option (Fl × R)}

theorem ev_S : (RR (n + 1)).ev = evA (RR n) theDefs := rfl
theorem ts_S : (RR (n + 1)).ts = tsA (RR n) := rfl

theorem x_cons {st : Stmt} {rest : List Stmt} (h1 : ex1N n sc ρ st = some (.next, ρ1)) (h2 : exsN n sc ρ1 rest = res) : exsN n sc ρ (st :: rest) = res := bndI h1 h2
theorem x_out {st : Stmt} {rest : List Stmt} {f : Fl} (hf : f ≠ .next) (h1 : ex1N n sc ρ st = some (f, ρ1)) : exsN n sc ρ (st :: rest) = some (f, ρ1) := bndI h1 (by cases f <;> first | rfl | exact absurd rfl hf)
theorem x_nil : exsN n sc ρ [] = some (.next, ρ) := rfl

theorem e_sub {a b : PySem.Expr} {p : Pos} {A B : AR} {c : AV} (hb : sliceForm b = none) (h1 : (RR n).ev cx ρ a = some A) (h2 : (RR n).ev cx ρ b = some B) (h3 : indexA A.v B.v = some c) : (RR (n + 1)).ev cx ρ (.Subscript a b p) = some ⟨c, false⟩ := by
  show evSub (RR n) cx ρ a b = _
  exact noneI hb (bndI h1 (bndI h2 (mpdI h3)))
theorem e_bin {a b : PySem.Expr} {o : Operator} {p : Pos} {A B : AR} {c : AV} (h1 : (RR n).ev cx ρ a = some A) (h2 : (RR n).ev cx ρ b = some B) (h3 : binA o A.v B.v = some c) : (RR (n + 1)).ev cx ρ (.BinOp a o b p) = some ⟨c, false⟩ := bndI h1 (bndI h2 (mpdI h3))
theorem t_cmp {a b : PySem.Expr} {o : CmpOp} {p : Pos} {A B : AR} {c : Bool} (hs : notSet b = true) (h1 : (RR n).ev cx ρ a = some A) (h2 : (RR n).ev cx ρ b = some B) (h3 : cmpA o A.v B.v = some c) : (RR (n + 1)).ts cx ρ (.Compare a [o] [b] p) = some c := by
  show tsCmp (RR n) cx ρ a [o] [b] = _
  exact someI (a := o) rfl (bndI (a := b) rfl (ifsI hs (bndI h1 (bndI h2 h3))))
theorem t_not {a : PySem.Expr} {p : Pos} {c : Bool} (h : (RR n).ts cx ρ a = some c) : (RR (n + 1)).ts cx ρ (.UnaryOp .Not a p) = some (!c) := mpdI h
theorem t_and2 {a b : PySem.Expr} {p : Pos} {c d : Bool} (h1 : (RR n).ts cx ρ a = some c) (h2 : c = true → (RR n).ts cx ρ b = some d) : (RR (n + 1)).ts cx ρ (.BoolOp .And [a, b] p) = some (c && d) := by
  show andA (RR n) cx ρ [a, b] = _
  refine bndI h1 ?_
  cases c with
  | false => rfl
  | true => exact bndI (h2 rfl) (by cases d <;> rfl)

/-- a value that is stored as it is -/
noncomputable def plainVal (value : PySem.Expr) : Bool := (popForm value).isNone && !isFreshForm value && !isSetComp value

theorem x_name {x : Str} {xp p : Pos} {value : PySem.Expr} {v : AV} (hp : plainVal value = true) (hf : freeze ρ value = ρ1) (h1 : (RR n).ev ⟨sc, none⟩ ρ1 value = some ⟨v, false⟩) (h2 : setV sc ρ1 x (.frz v) = some ρ') :
    ex1N n sc ρ (.Assign [.Name x xp] value p) = some (.next, ρ') := by
  obtain ⟨hp, h4⟩ := Bool.and_eq_true_iff.mp hp
  obtain ⟨h5, h3⟩ := Bool.and_eq_true_iff.mp hp
  have h3 := (Bool.not_eq_true' _).mp h3
  have e : exName (RR n) sc ρ x value = some (.next, ρ') := by
    unfold exName
    rw [hf]
    exact bndI (clean_of h1) (eif (fun q => Bool.false_ne_true (h3.symm.trans q)) (ifsI ((Bool.not_eq_true' _).mp h4) (mpdI h2)))
  show (popForm value).elim _ _ = _
  exact noneI (Option.isNone_iff_eq_none.mp h5) e

theorem x_while {t : PySem.Expr} {body : List Stmt} {p : Pos} (h : whileA (RR n) sc t body 64 ρ = res) : ex1N n sc ρ (.While t body [] p) = res := h
theorem ex_S {l : List Stmt} : (RR (n + 1)).ex sc ρ l = exsN n sc ρ l := rfl
theorem x_if {t : PySem.Expr} {body orelse : List Stmt} {p : Pos} {c : Bool} (hf : freeze ρ t = ρ1) (h1 : (RR n).ts ⟨sc, none⟩ ρ1 t = some c) (h2 : (RR n).ex sc ρ1 (if c = true then body else orelse) = res) : ex1N n sc ρ (.If t body orelse p) = res := by
  show exIf (RR n) sc ρ t body orelse = res
  unfold exIf
  rw [hf]
  exact bndI h1 h2
theorem x_brk {p : Pos} : ex1N n sc ρ (.Break p) = some (.brk, ρ) := rfl
theorem x_cnt {p : Pos} : ex1N n sc ρ (.Continue p) = some (.cont, ρ) := rfl
theorem x_store {x : Str} {xp sp p : Pos} {i value : PySem.Expr} {v c c' : AV} {I : AR} (hf : freeze ρ value = ρ1) (hk : kind ⟨sc, none⟩ x = some .var) (h1 : (RR n).ev ⟨sc, none⟩ ρ1 value = some ⟨v, false⟩) (h2 : (RR n).ev ⟨sc, none⟩ ρ1 i = some I)
    (h3 : ownOf ρ1 x = some c) (h4 : storeA c I.v v = some c') (h5 : setOwn ρ1 x c' = ρ2) : ex1N n sc ρ (.Assign [.Subscript (.Name x xp) i sp] value p) = some (.next, ρ2) := by
  show exSub (RR n) sc ρ x i value = _
  unfold exSub
  rw [hf]
  exact h5 ▸ ifsI (isK_of hk) (bndI (clean_of h1) (bndI h2 (bndI h3 (mpdI h4))))
end
end Mine.P

end

/-! part Sym2 -/
section
set_option maxRecDepth 100000
set_option autoImplicit false
set_option linter.unusedVariables false
namespace Mine.P
open PySem

noncomputable abbrev nm (s : String) : Str := Str.ofString s
noncomputable def dF (i : Nat) : Def := (theDefs[i]?.map (·.2)).getD ⟨[], [], ⟨.function, [], false, false, []⟩⟩

/-- the sign of a number -/
noncomputable def ch (i : Int) : Str := ⟨#[97 + i.toNat]⟩
/-- the tuple of a key -/
noncomputable def enc (k : Int) : AV := .tup [.int (k / 16), .str (ch (k % 16 / 4)), .str (ch (k % 4))]

theorem ch_inj {i j : Int} (hi : 0 ≤ i) (hj : 0 ≤ j) : ch i = ch j ↔ i = j := by
  unfold ch
  constructor
  · intro h
    have h1 : (#[97 + i.toNat] : Array Nat) = #[97 + j.toNat] := by simpa using h
    have h2 : 97 + i.toNat = 97 + j.toNat := by simpa using h1
    lia
  · rintro rfl; rfl
theorem ch_lt {i j : Int} (hi : 0 ≤ i) (hj : 0 ≤ j) : ((ch i).cps.toList < (ch j).cps.toList) ↔ i < j := by
  unfold ch
  show [97 + i.toNat] < [97 + j.toNat] ↔ _
  rw [List.cons_lt_cons_iff]
  simp
  lia

theorem enc_lt (a b : Int) : cmpA .Lt (enc a) (enc b) = some (decide (a < b)) := by
  unfold enc
  have ha1 : 0 ≤ a % 16 / 4 := by lia
  have hb1 : 0 ≤ b % 16 / 4 := by lia
  have ha2 : 0 ≤ a % 4 := by lia
  have hb2 : 0 ≤ b % 4 := by lia
  show (if a / 16 = b / 16 then (if ch (a % 16 / 4) = ch (b % 16 / 4) then (if ch (a % 4) = ch (b % 4) then some false else some (decide ((ch (a % 4)).cps.toList < (ch (b % 4)).cps.toList))) else some (decide ((ch (a % 16 / 4)).cps.toList < (ch (b % 16 / 4)).cps.toList))) else some (decide (a / 16 < b / 16))) = _
  split
  · split
    · split
      · rename_i h1 h2 h3
        rw [ch_inj ha1 hb1] at h2
        rw [ch_inj ha2 hb2] at h3
        have : ¬ a < b := by lia
        simp [this]
      · rename_i h1 h2 h3
        rw [ch_inj ha1 hb1] at h2
        rw [ch_inj ha2 hb2] at h3
        congr 1
        apply decide_eq_decide.mpr
        rw [ch_lt ha2 hb2]
        lia
    · rename_i h1 h2
      rw [ch_inj ha1 hb1] at h2
      congr 1
      apply decide_eq_decide.mpr
      rw [ch_lt ha1 hb1]
      lia
  · rename_i h1
    congr 1
    apply decide_eq_decide.mpr
    lia

theorem c_lt (a b : Int) : cmpA .Lt (.int a) (.int b) = some (decide (a < b)) := rfl
theorem c_le (a b : Int) : cmpA .LtE (.int a) (.int b) = some (decide (a ≤ b)) := rfl
theorem c_gt (a b : Int) : cmpA .Gt (.int a) (.int b) = some (decide (b < a)) := rfl
theorem c_ge (a b : Int) : cmpA .GtE (.int a) (.int b) = some (decide (b ≤ a)) := rfl
theorem c_eq (a b : Int) : cmpA .Eq (.int a) (.int b) = some (decide (a = b)) := rfl
theorem c_ne (a b : Int) : cmpA .NotEq (.int a) (.int b) = some (!decide (a = b)) := rfl
theorem c_seq (a b : Str) : cmpA .Eq (.str a) (.str b) = some (decide (a = b)) := rfl
theorem c_sne (a b : Str) : cmpA .NotEq (.str a) (.str b) = some (!decide (a = b)) := rfl
theorem c_in (a b : Str) : cmpA .In (.str a) (.str b) = some (Txt.contains b a) := rfl
theorem c_nin (a b : Str) : cmpA .NotIn (.str a) (.str b) = some (!Txt.contains b a) := rfl
theorem c_ind (a : Str) (d : List (Str × AV)) : cmpA .In (.str a) (.dict d) = some (d.lookup a).isSome := rfl
theorem b_add (a b : Int) : binA .Add (.int a) (.int b) = some (.int (a + b)) := rfl
theorem b_sub (a b : Int) : binA .Sub (.int a) (.int b) = some (.int (a - b)) := rfl
theorem b_mul (a b : Int) : binA .Mult (.int a) (.int b) = if small a = true ∧ small b = true then some (.int (a * b)) else none := rfl
theorem b_fdiv (a b : Int) : binA .FloorDiv (.int a) (.int b) = if small a = true ∧ small b = true ∧ b ≠ 0 then some (.int (Int.fdiv a b)) else none := rfl
theorem b_mod (a b : Int) : binA .Mod (.int a) (.int b) = if b ≠ 0 then some (.int (Int.fmod a b)) else none := rfl
theorem b_shr (a b : Int) : binA .RShift (.int a) (.int b) = if small a = true ∧ b = 1 then some (.int (a / 2)) else none := rfl
theorem b_sadd (a b : Str) : binA .Add (.str a) (.str b) = if a.length + b.length ≤ 4096 then some (.str (a ++ b)) else none := rfl
theorem b_ladd (a b : List AV) : binA .Add (.list a) (.list b) = if a.length + b.length ≤ 4096 then some (.list (a ++ b)) else none := rfl
theorem small_of {i : Int} (h : 0 ≤ i) (h2 : i < 1000000) : small i = true := by simp [small]; lia

section
variable {r : Rec} {sc : Scope} {t : PySem.Expr} {body : List Stmt} {k : Nat} {ρ ρ1 : R} {res : Option (Fl × R)}
theorem w_cont (h1 : r.ts ⟨sc, none⟩ ρ t = some true) (h2 : r.ex sc ρ body = some (.cont, ρ1)) (h3 : whileA r sc t body k ρ1 = res) : whileA r sc t body (k + 1) ρ = res := bndI h1 (tif rfl (bndI h2 h3))
theorem w_next (h1 : r.ts ⟨sc, none⟩ ρ t = some true) (h2 : r.ex sc ρ body = some (.next, ρ1)) (h3 : whileA r sc t body k ρ1 = res) : whileA r sc t body (k + 1) ρ = res := bndI h1 (tif rfl (bndI h2 h3))
theorem w_break (h1 : r.ts ⟨sc, none⟩ ρ t = some true) (h2 : r.ex sc ρ body = some (.brk, ρ1)) : whileA r sc t body (k + 1) ρ = some (.next, ρ1) := bndI h1 (tif rfl (bndI h2 rfl))
theorem w_stop (h1 : r.ts ⟨sc, none⟩ ρ t = some false) : whileA r sc t body (k + 1) ρ = some (.next, ρ) := bndI h1 rfl
end
end Mine.P

end

/-! part Sym3 -/
section
set_option maxRecDepth 100000
set_option autoImplicit false
set_option linter.unusedVariables false
namespace Mine.P
open PySem

theorem index_list_eq (l : List AV) (i : Int) : indexA (.list l) (.int i) = if 0 ≤ i then (if small i = true then l[i.toNat]? else none) else if i = -1 then l.getLast? else none := rfl
theorem store_list_eq (l : List AV) (i : Int) (v : AV) : storeA (.list l) (.int i) v = if small i = true ∧ i.toNat < l.length then some (.list (l.set i.toNat v)) else none := rfl
theorem st_dict {d : List (Str × AV)} {k : Str} {v : AV} (h : d.length ≤ 4096) : storeA (.dict d) (.str k) v = some (.dict (put d k v)) := if_pos h
theorem idx_enc (L : List Int) (p : Nat) (hp : p < L.length) (hs : p < 1000000) : indexA (.list (L.map enc)) (.int (p : Int)) = some (enc (at' L p)) := by
  have h0 : (0 : Int) ≤ (p : Int) := by lia
  have h1 : small (p : Int) = true := small_of (by lia) (by lia)
  rw [index_list_eq, if_pos h0, if_pos h1, at_get L p hp]
  simp [hp]

theorem store_enc (L : List Int) (p : Nat) (hp : p < L.length) (hs : p < 1000000) (v : Int) : storeA (.list (L.map enc)) (.int (p : Int)) (enc v) = some (.list ((L.set p v).map enc)) := by
  have h1 : small (p : Int) = true := small_of (by lia) (by lia)
  rw [store_list_eq, if_pos ⟨h1, by simpa using hp⟩]
  simp [List.map_set]
end Mine.P

end

/-! part Sift1 -/
section
set_option maxRecDepth 100000
set_option autoImplicit false
set_option linter.unusedVariables false
namespace Mine.P
open PySem

/-! _siftdown -/

noncomputable def EV (L : List Int) (s p : Nat) (new : Int) (ex : List (Str × Var)) : R :=
  ⟨(nm "heap", .io (.list (L.map enc))) :: (nm "startpos", .frz (.int s)) :: (nm "pos", .frz (.int p)) :: (nm "newitem", .frz (enc new)) :: ex, []⟩
noncomputable def exA (u v : Int) : List (Str × Var) := [(nm "parentpos", .frz (.int u)), (nm "parent", .frz (enc v))]

noncomputable def whT : PySem.Expr := match (dF 3).body with | [_, .While t _ _ _, _] => t | _ => .Constant .none 0 ⟨0, 0, 0, 0⟩
noncomputable def whB : List Stmt := match (dF 3).body with | [_, .While _ b _ _, _] => b | _ => []

theorem sd_test (n : Nat) (L : List Int) (s p : Nat) (new : Int) (ex : List (Str × Var)) : (RR (n + 5)).ts ⟨(dF 3).sc, none⟩ (EV L s p new ex) whT = some (decide (s < p)) := by
  refine t_cmp (A := ⟨.int p, false⟩) (B := ⟨.int s, false⟩) rfl (by kernel_rfl) (by kernel_rfl) ?_
  rw [c_gt]; simp

/-- one turn that goes on -/
theorem sd_go (n : Nat) (L : List Int) (s p : Nat) (new : Int) (ex : List (Str × Var)) (hex : ex = [] ∨ ∃ u v, ex = exA u v) (hp : p < L.length) (h0 : 1 ≤ p) (hl : L.length ≤ 4096) (hlt : new < at' L ((p - 1) / 2)) :
    (RR (n + 9)).ex (dF 3).sc (EV L s p new ex) whB = some (.cont, EV (L.set p (at' L ((p - 1) / 2))) s ((p - 1) / 2) new (exA ((p - 1) / 2 : Nat) (at' L ((p - 1) / 2)))) := by
  have e1 : binA .RShift (.int ((p : Int) - 1)) (.int 1) = some (.int (((p - 1) / 2 : Nat) : Int)) := by
    rw [b_shr, if_pos ⟨small_of (by lia) (by lia), rfl⟩]; simp; lia
  have e2 : indexA (.list (L.map enc)) (.int (((p - 1) / 2 : Nat) : Int)) = some (enc (at' L ((p - 1) / 2))) := idx_enc L _ (by lia) (by lia)
  have e3 : cmpA .Lt (enc new) (enc (at' L ((p - 1) / 2))) = some true := by rw [enc_lt]; simp [hlt]
  have e4 := store_enc L p hp (by lia) (at' L ((p - 1) / 2))
  generalize at' L ((p - 1) / 2) = P at *
  generalize (p - 1) / 2 = q at *
  have tail : exsN (n + 8) (dF 3).sc (EV L s p new (exA q P)) (whB.drop 2) = some (.cont, EV (L.set p P) s q new (exA q P)) := by
    refine x_out (by intro h; cases h) (x_if (ρ1 := EV L s p new (exA q P)) (c := true) rfl (t_cmp (A := ⟨enc new, false⟩) (B := ⟨enc P, false⟩) rfl (by kernel_rfl) (by kernel_rfl) e3) ?_)
    rw [if_pos rfl]
    refine (ex_S (n := n + 7)).trans ?_
    refine x_cons (ρ1 := EV (L.set p P) s p new (exA q P)) (x_store (ρ1 := EV L s p new (exA q P)) (I := ⟨.int p, false⟩) (v := enc P) (c := .list (L.map enc)) (by kernel_rfl) (by kernel_rfl) (by kernel_rfl) (by kernel_rfl) (by kernel_rfl) e4 (by kernel_rfl)) ?_
    refine x_cons (ρ1 := EV (L.set p P) s q new (exA q P)) (x_name (v := .int q) (ρ1 := EV (L.set p P) s p new (exA q P)) rfl (by kernel_rfl) (by kernel_rfl) (by kernel_rfl)) ?_
    exact x_out (by intro h; cases h) x_cnt
  rcases hex with rfl | ⟨u, v, rfl⟩
  · refine x_cons (ρ1 := ⟨(EV L s p new []).vars ++ [(nm "parentpos", .frz (.int (q : Int)))], []⟩) (x_name (ρ1 := EV L s p new []) rfl (by kernel_rfl) (e_bin (A := ⟨.int ((p : Int) - 1), false⟩) (B := ⟨.int 1, false⟩) (by kernel_rfl) (by kernel_rfl) e1) (by kernel_rfl)) ?_
    refine x_cons (ρ1 := EV L s p new (exA q P)) (x_name (ρ1 := ⟨(EV L s p new []).vars ++ [(nm "parentpos", .frz (.int (q : Int)))], []⟩) rfl (by kernel_rfl) (e_sub (A := ⟨.list (L.map enc), true⟩) (B := ⟨.int q, false⟩) rfl (by kernel_rfl) (by kernel_rfl) e2) (by kernel_rfl)) tail
  · refine x_cons (ρ1 := EV L s p new (exA q v)) (x_name (ρ1 := EV L s p new (exA u v)) rfl (by kernel_rfl) (e_bin (A := ⟨.int ((p : Int) - 1), false⟩) (B := ⟨.int 1, false⟩) (by kernel_rfl) (by kernel_rfl) e1) (by kernel_rfl)) ?_
    refine x_cons (ρ1 := EV L s p new (exA q P)) (x_name (ρ1 := EV L s p new (exA q v)) rfl (by kernel_rfl) (e_sub (A := ⟨.list (L.map enc), true⟩) (B := ⟨.int q, false⟩) rfl (by kernel_rfl) (by kernel_rfl) e2) (by kernel_rfl)) tail
/-- the turn that breaks -/
theorem sd_brk (n : Nat) (L : List Int) (s p : Nat) (new : Int) (ex : List (Str × Var)) (hex : ex = [] ∨ ∃ u v, ex = exA u v) (hp : p < L.length) (h0 : 1 ≤ p) (hl : L.length ≤ 4096) (hlt : ¬ new < at' L ((p - 1) / 2)) :
    (RR (n + 9)).ex (dF 3).sc (EV L s p new ex) whB = some (.brk, EV L s p new (exA ((p - 1) / 2 : Nat) (at' L ((p - 1) / 2)))) := by
  have e1 : binA .RShift (.int ((p : Int) - 1)) (.int 1) = some (.int (((p - 1) / 2 : Nat) : Int)) := by
    rw [b_shr, if_pos ⟨small_of (by lia) (by lia), rfl⟩]; simp; lia
  have e2 : indexA (.list (L.map enc)) (.int (((p - 1) / 2 : Nat) : Int)) = some (enc (at' L ((p - 1) / 2))) := idx_enc L _ (by lia) (by lia)
  have e3 : cmpA .Lt (enc new) (enc (at' L ((p - 1) / 2))) = some false := by rw [enc_lt]; simp [hlt]
  generalize at' L ((p - 1) / 2) = P at *
  generalize (p - 1) / 2 = q at *
  have tail : exsN (n + 8) (dF 3).sc (EV L s p new (exA q P)) (whB.drop 2) = some (.brk, EV L s p new (exA q P)) := by
    refine x_cons (ρ1 := EV L s p new (exA q P)) (x_if (ρ1 := EV L s p new (exA q P)) (c := false) rfl (t_cmp (A := ⟨enc new, false⟩) (B := ⟨enc P, false⟩) rfl (by kernel_rfl) (by kernel_rfl) e3) ?_) ?_
    · rw [if_neg (by decide)]
      exact (ex_S (n := n + 7)).trans x_nil
    · exact x_out (by intro h; cases h) x_brk
  rcases hex with rfl | ⟨u, v, rfl⟩
  · refine x_cons (ρ1 := ⟨(EV L s p new []).vars ++ [(nm "parentpos", .frz (.int (q : Int)))], []⟩) (x_name (ρ1 := EV L s p new []) rfl (by kernel_rfl) (e_bin (A := ⟨.int ((p : Int) - 1), false⟩) (B := ⟨.int 1, false⟩) (by kernel_rfl) (by kernel_rfl) e1) (by kernel_rfl)) ?_
    refine x_cons (ρ1 := EV L s p new (exA q P)) (x_name (ρ1 := ⟨(EV L s p new []).vars ++ [(nm "parentpos", .frz (.int (q : Int)))], []⟩) rfl (by kernel_rfl) (e_sub (A := ⟨.list (L.map enc), true⟩) (B := ⟨.int q, false⟩) rfl (by kernel_rfl) (by kernel_rfl) e2) (by kernel_rfl)) tail
  · refine x_cons (ρ1 := EV L s p new (exA q v)) (x_name (ρ1 := EV L s p new (exA u v)) rfl (by kernel_rfl) (e_bin (A := ⟨.int ((p : Int) - 1), false⟩) (B := ⟨.int 1, false⟩) (by kernel_rfl) (by kernel_rfl) e1) (by kernel_rfl)) ?_
    refine x_cons (ρ1 := EV L s p new (exA q P)) (x_name (ρ1 := EV L s p new (exA q v)) rfl (by kernel_rfl) (e_sub (A := ⟨.list (L.map enc), true⟩) (B := ⟨.int q, false⟩) rfl (by kernel_rfl) (by kernel_rfl) e2) (by kernel_rfl)) tail

theorem sd_while (n : Nat) (s : Nat) (new : Int) : ∀ (f : Nat) (L : List Int) (p : Nat) (k : Nat) (ex : List (Str × Var)), p ≤ f → f < k → (ex = [] ∨ ∃ u v, ex = exA u v) → p < L.length → L.length ≤ 4096 →
    ∃ L' p' ex', whileA (RR (n + 9)) (dF 3).sc whT whB k (EV L s p new ex) = some (.next, EV L' s p' new ex') ∧ (ex' = [] ∨ ∃ u v, ex' = exA u v) ∧ L'.set p' new = sdown s new f L p ∧ p' < L'.length ∧ L'.length = L.length := by
  intro f
  induction f with
  | zero =>
    intro L p k ex hf hk hex hp hl
    obtain ⟨k, rfl⟩ : ∃ j, k = j + 1 := ⟨k - 1, by lia⟩
    have hp0 : p = 0 := by lia
    subst hp0
    refine ⟨L, 0, ex, w_stop ?_, hex, rfl, hp, rfl⟩
    have := sd_test (n + 4) L s 0 new ex
    simpa using this
  | succ f ih =>
    intro L p k ex hf hk hex hp hl
    obtain ⟨k, rfl⟩ : ∃ j, k = j + 1 := ⟨k - 1, by lia⟩
    have ht := sd_test (n + 4) L s p new ex
    by_cases hps : s < p
    · rw [decide_eq_true hps] at ht
      by_cases hlt : new < at' L ((p - 1) / 2)
      · have hb := sd_go n L s p new ex hex hp (by lia) hl hlt
        obtain ⟨L', p', ex', h1, h2, h3, h4, h5⟩ := ih (L.set p (at' L ((p - 1) / 2))) ((p - 1) / 2) k _ (by lia) (by lia) (.inr ⟨_, _, rfl⟩) (by rw [List.length_set]; lia) (by rw [List.length_set]; exact hl)
        refine ⟨L', p', ex', w_cont ht hb h1, h2, ?_, h4, by rw [h5, List.length_set]⟩
        unfold sdown
        rw [if_pos hps, if_pos hlt]; exact h3
      · have hb := sd_brk n L s p new ex hex hp (by lia) hl hlt
        refine ⟨L, p, _, w_break ht hb, .inr ⟨_, _, rfl⟩, ?_, hp, rfl⟩
        unfold sdown
        rw [if_pos hps, if_neg hlt]
    · rw [decide_eq_false hps] at ht
      refine ⟨L, p, ex, w_stop ht, hex, ?_, hp, rfl⟩
      unfold sdown
      rw [if_neg hps]
end Mine.P

end

/-! part Sift2 -/
section
set_option maxRecDepth 100000
set_option autoImplicit false
set_option linter.unusedVariables false
namespace Mine.P
open PySem

theorem call_S (n : Nat) : (RR (n + 1)).call = callA (RR n) theDefs := rfl

theorem call_io {n : Nat} {f p : Str} {d : Def} {ps : List Str} {c c' v : AV} {vs : List Var} {ρ' : R} {fl : Fl} (hd : theDefs.lookup f = some d) (hp : d.params = p :: ps) (hlen : ps.length = vs.length)
    (hx : (RR n).ex d.sc ⟨(p :: ps).zip (.io c :: vs.map argVar), []⟩ d.body = some (fl, ρ')) (hv : retV fl = some v) (hl : ρ'.vars.lookup p = some (.io c')) : (RR (n + 1)).call f (.own c :: vs) = some (v, some c') := by
  rw [call_S]
  refine bndI hd (ifsI (by rw [hp]; exact congrArg (· + 1) hlen) ?_)
  rw [hp]
  exact bndI hx (bndI hv (tif rfl (bndI rfl (mpdI (bndI hl rfl)))))

theorem call_frz {n : Nat} {f : Str} {d : Def} {v : AV} {vs : List AV} {ρ' : R} {fl : Fl} (hd : theDefs.lookup f = some d) (hlen : d.params.length = vs.length)
    (hx : (RR n).ex d.sc ⟨d.params.zip (vs.map .frz), []⟩ d.body = some (fl, ρ')) (hv : retV fl = some v) : (RR (n + 1)).call f (vs.map .frz) = some (v, none) := by
  have h1 : (vs.map Var.frz).map argVar = vs.map .frz := by rw [List.map_map]; rfl
  rw [call_S]
  refine bndI hd (ifsI (by simp [hlen]) ?_)
  rw [h1]
  exact bndI hx (bndI hv (eif (by cases vs <;> exact Bool.false_ne_true) rfl))
end Mine.P

end

/-! part Sift3 -/
section
set_option maxRecDepth 100000
set_option autoImplicit false
set_option linter.unusedVariables false
namespace Mine.P
open PySem

theorem siftdown_fn (n : Nat) (L : List Int) (s p : Nat) (hp : p < L.length) (hl : L.length < 64) :
    (RR (n + 12)).call (nm "_siftdown") [.own (.list (L.map enc)), .frz (.int s), .frz (.int p)] = some (.none, some (.list ((sdown s (at' L p) L.length L p).map enc))) := by
  have i1 := idx_enc L p hp (by lia)
  obtain ⟨L', p', ex', h1, h2, h3, h4, h5⟩ := sd_while (n + 1) s (at' L p) L.length L p 64 [] (by lia) hl (.inl rfl) hp (by lia)
  generalize hnew : at' L p = new at *
  have st := store_enc L' p' h4 (by lia) new
  rw [h3] at st
  have fin : ∃ ρ', exsN (n + 10) (dF 3).sc (EV L' s p' new ex') ((dF 3).body.drop 2) = some (.next, ρ') ∧ ρ'.vars.lookup (nm "heap") = some (.io (.list ((sdown s new L.length L p).map enc))) := by
    rcases h2 with rfl | ⟨u, v, rfl⟩
    · exact ⟨EV (sdown s new L.length L p) s p' new [], x_cons (x_store (ρ1 := EV L' s p' new []) (I := ⟨.int p', false⟩) (v := enc new) (c := .list (L'.map enc)) (by kernel_rfl) (by kernel_rfl) (by kernel_rfl) (by kernel_rfl) (by kernel_rfl) st (by kernel_rfl)) x_nil, by kernel_rfl⟩
    · exact ⟨EV (sdown s new L.length L p) s p' new (exA u v), x_cons (x_store (ρ1 := EV L' s p' new (exA u v)) (I := ⟨.int p', false⟩) (v := enc new) (c := .list (L'.map enc)) (by kernel_rfl) (by kernel_rfl) (by kernel_rfl) (by kernel_rfl) (by kernel_rfl) st (by kernel_rfl)) x_nil, by kernel_rfl⟩
  obtain ⟨ρ', f1, f2⟩ := fin
  refine call_io (n := n + 11) (d := dF 3) (p := nm "heap") (ps := [nm "startpos", nm "pos"]) (ρ' := ρ') (fl := .next) (by kernel_rfl) (by kernel_rfl) rfl ?_ rfl f2
  refine (ex_S (n := n + 10)).trans ?_
  refine x_cons (ρ1 := EV L s p new []) (x_name (ρ1 := ⟨[(nm "heap", .io (.list (L.map enc))), (nm "startpos", .frz (.int s)), (nm "pos", .frz (.int p))], []⟩) rfl (by kernel_rfl) (e_sub (A := ⟨.list (L.map enc), true⟩) (B := ⟨.int p, false⟩) rfl (by kernel_rfl) (by kernel_rfl) i1) (by kernel_rfl)) ?_
  exact x_cons (x_while h1) f1
end Mine.P

end

/-! part Sift4 -/
section
set_option maxRecDepth 100000
set_option autoImplicit false
set_option linter.unusedVariables false
namespace Mine.P
open PySem

theorem len_notdef : isDef (nm "len") theDefs = false := by decide +kernel

theorem e_len {n : Nat} {cx : CX} {ρ : R} {a : PySem.Expr} {fp p : Pos} {l : List AV} {o : Bool} (hk : kind cx (nm "len") = some .glob) (hst : notStar a = true) (h1 : (RR n).ev cx ρ a = some ⟨.list l, o⟩) (hs : l.length < 1000000) :
    (RR (n + 1)).ev cx ρ (.Call (.Name (nm "len") fp) [a] [] p) = some ⟨.int l.length, false⟩ := by
  have hsm : small (l.length : Int) = true := small_of (by lia) (by lia)
  have he : evrs (RR n) cx ρ [a] = some [⟨.list l, o⟩] := ifsI hst (bndI h1 rfl)
  show evFn (RR n) theDefs cx ρ (nm "len") [a] = _
  exact ifsI (isK_of hk) (eif (by decide) (eif (by decide) (eif (by rw [len_notdef]; decide) (bndI he (mpdI (eif (by decide) (eif (by decide) (bndI rfl (tif rfl (bndI rfl (ifsI hsm rfl)))))))))))
end Mine.P

end

/-! part Sift5 -/
section
set_option maxRecDepth 100000
set_option autoImplicit false
set_option linter.unusedVariables false
namespace Mine.P
open PySem

/-! _siftup -/

noncomputable def EU (L : List Int) (p e s : Nat) (new : Int) (c : Nat) (ex : List (Str × Var)) : R :=
  ⟨(nm "heap", .io (.list (L.map enc))) :: (nm "pos", .frz (.int p)) :: (nm "endpos", .frz (.int e)) :: (nm "startpos", .frz (.int s)) :: (nm "newitem", .frz (enc new)) :: (nm "childpos", .frz (.int c)) :: ex, []⟩
noncomputable def exR (r : Nat) : List (Str × Var) := [(nm "rightpos", .frz (.int r))]

noncomputable def upT : PySem.Expr := match (dF 4).body with | [_, _, _, _, .While t _ _ _, _, _] => t | _ => .Constant .none 0 ⟨0, 0, 0, 0⟩
noncomputable def upB : List Stmt := match (dF 4).body with | [_, _, _, _, .While _ b _ _, _, _] => b | _ => []

theorem su_test (n : Nat) (L : List Int) (p e s : Nat) (new : Int) (c : Nat) (ex : List (Str × Var)) : (RR (n + 5)).ts ⟨(dF 4).sc, none⟩ (EU L p e s new c ex) upT = some (decide (c < e)) := by
  refine t_cmp (A := ⟨.int c, false⟩) (B := ⟨.int e, false⟩) rfl (by kernel_rfl) (by kernel_rfl) ?_
  rw [c_lt]; simp

theorem mul2 (p : Nat) (hp : p < 1000000) : binA .Mult (.int 2) (.int (p : Int)) = some (.int (2 * p)) := by
  rw [b_mul, if_pos ⟨small_of (by decide) (by decide), small_of (by lia) (by lia)⟩]

/-- one turn of _siftup's while -/
theorem su_go (n : Nat) (L : List Int) (p s : Nat) (new : Int) (ex : List (Str × Var)) (hex : ex = [] ∨ ∃ r, ex = exR r) (hc : 2 * p + 1 < L.length) (hl : L.length ≤ 4096) :
    ∃ r, (RR (n + 12)).ex (dF 4).sc (EU L p L.length s new (2 * p + 1) ex) upB = some (.next, EU (L.set p (at' L (child L p))) (child L p) L.length s new (2 * child L p + 1) (exR r)) := by
  refine ⟨2 * p + 2, ?_⟩
  obtain ⟨c1, c2, c3, c4⟩ := child_spec hc
  have hp : p < L.length := by lia
  have i1 := idx_enc L (2 * p + 1) hc (by omega)
  have i3 := idx_enc L (child L p) c1 (by omega)
  have s1 := store_enc L p hp (by omega) (at' L (child L p))
  have m1 := mul2 (child L p) (by omega)
  refine (ex_S (n := n + 11)).trans ?_
  have test : (RR (n + 11)).ts ⟨(dF 4).sc, none⟩ (EU L p L.length s new (2 * p + 1) (exR (2 * p + 2))) (match upB with | [_, .If t _ _ _, _, _, _] => t | _ => .Constant .none 0 ⟨0, 0, 0, 0⟩) = some (decide (2 * p + 2 < L.length) && !decide (at' L (2 * p + 1) < at' L (2 * p + 2))) := by
    refine t_and2 (n := n + 10) (t_cmp (n := n + 9) (A := ⟨.int (2 * p + 2 : Nat), false⟩) (B := ⟨.int L.length, false⟩) rfl (by kernel_rfl) (by kernel_rfl) ?_) fun hr => ?_
    · rw [c_lt]; simp; omega
    · have hr := of_decide_eq_true hr
      have i2 := idx_enc L (2 * p + 2) hr (by omega)
      exact t_not (n := n + 9) (t_cmp (n := n + 8) (A := ⟨enc (at' L (2 * p + 1)), false⟩) (B := ⟨enc (at' L (2 * p + 2)), false⟩) rfl (e_sub (n := n + 7) (A := ⟨.list (L.map enc), true⟩) (B := ⟨.int (2 * p + 1 : Nat), false⟩) rfl (by kernel_rfl) (by kernel_rfl) i1)
        (e_sub (n := n + 7) (A := ⟨.list (L.map enc), true⟩) (B := ⟨.int (2 * p + 2 : Nat), false⟩) rfl (by kernel_rfl) (by kernel_rfl) i2) (enc_lt _ _))
  have step2 : exsN (n + 11) (dF 4).sc (EU L p L.length s new (2 * p + 1) (exR (2 * p + 2))) (upB.drop 1) = some (.next, EU (L.set p (at' L (child L p))) (child L p) L.length s new (2 * child L p + 1) (exR (2 * p + 2))) := by
    refine x_cons (ρ1 := EU L p L.length s new (child L p) (exR (2 * p + 2))) (x_if (ρ1 := EU L p L.length s new (2 * p + 1) (exR (2 * p + 2))) (by kernel_rfl) test ?_) ?_
    · by_cases hr : 2 * p + 2 < L.length ∧ ¬ at' L (2 * p + 1) < at' L (2 * p + 2)
      · have hch : child L p = 2 * p + 2 := by unfold child; rw [if_pos hr]
        rw [hch, if_pos (by simp [hr.1]; omega)]
        refine (ex_S (n := n + 10)).trans (x_cons (ρ1 := EU L p L.length s new (2 * p + 2) (exR (2 * p + 2))) (x_name (v := .int (2 * p + 2 : Nat)) (ρ1 := EU L p L.length s new (2 * p + 1) (exR (2 * p + 2))) rfl (by kernel_rfl) (by kernel_rfl) (by kernel_rfl)) x_nil)
      · have hch : child L p = 2 * p + 1 := by unfold child; rw [if_neg hr]
        rw [hch, if_neg (by simp; intro h; exact Decidable.byContradiction fun q => hr ⟨h, by omega⟩)]
        exact (ex_S (n := n + 10)).trans x_nil
    · generalize child L p = c at *
      generalize at' L c = v at *
      refine x_cons (ρ1 := EU (L.set p v) p L.length s new c (exR (2 * p + 2))) (x_store (ρ1 := EU L p L.length s new c (exR (2 * p + 2))) (I := ⟨.int p, false⟩) (v := enc v) (c := .list (L.map enc)) (by kernel_rfl) (by kernel_rfl) (e_sub (n := n + 10) (A := ⟨.list (L.map enc), true⟩) (B := ⟨.int c, false⟩) rfl (by kernel_rfl) (by kernel_rfl) i3) (by kernel_rfl) (by kernel_rfl) s1 (by kernel_rfl)) ?_
      refine x_cons (ρ1 := EU (L.set p v) c L.length s new c (exR (2 * p + 2))) (x_name (v := .int c) (ρ1 := EU (L.set p v) p L.length s new c (exR (2 * p + 2))) rfl (by kernel_rfl) (by kernel_rfl) (by kernel_rfl)) ?_
      refine x_cons (ρ1 := EU (L.set p v) c L.length s new (2 * c + 1) (exR (2 * p + 2))) (x_name (v := .int (2 * (c : Int) + 1)) (ρ1 := EU (L.set p v) c L.length s new c (exR (2 * p + 2))) rfl (by kernel_rfl) (e_bin (n := n + 10) (A := ⟨.int (2 * (c : Int)), false⟩) (B := ⟨.int 1, false⟩) (e_bin (n := n + 9) (A := ⟨.int 2, false⟩) (B := ⟨.int c, false⟩) (by kernel_rfl) (by kernel_rfl) m1) (by kernel_rfl) rfl) ?_) x_nil
      have : (2 * (c : Int) + 1) = ((2 * c + 1 : Nat) : Int) := by push_cast; rfl
      rw [this]
      kernel_rfl
  rcases hex with rfl | ⟨r, rfl⟩
  · refine x_cons (ρ1 := EU L p L.length s new (2 * p + 1) (exR (2 * p + 2))) (x_name (v := .int ((2 * p + 1 : Nat) + 1 : Int)) (ρ1 := EU L p L.length s new (2 * p + 1) []) rfl (by kernel_rfl) (by kernel_rfl) (by kernel_rfl)) step2
  · refine x_cons (ρ1 := EU L p L.length s new (2 * p + 1) (exR (2 * p + 2))) (x_name (v := .int ((2 * p + 1 : Nat) + 1 : Int)) (ρ1 := EU L p L.length s new (2 * p + 1) (exR r)) rfl (by kernel_rfl) (by kernel_rfl) (by kernel_rfl)) step2

theorem su_while (n : Nat) (s : Nat) (new : Int) : ∀ (f : Nat) (L : List Int) (p : Nat) (k : Nat) (ex : List (Str × Var)), L.length < f + p + 1 → f < k → (ex = [] ∨ ∃ r, ex = exR r) → p < L.length → L.length ≤ 4096 →
    ∃ ex', whileA (RR (n + 12)) (dF 4).sc upT upB k (EU L p L.length s new (2 * p + 1) ex) = some (.next, EU (descend f L p).1 (descend f L p).2 L.length s new (2 * (descend f L p).2 + 1) ex') ∧ (ex' = [] ∨ ∃ r, ex' = exR r) := by
  intro f
  induction f with
  | zero => intro L p k ex hf hk hex hp hl; lia
  | succ f ih =>
    intro L p k ex hf hk hex hp hl
    obtain ⟨k, rfl⟩ : ∃ j, k = j + 1 := ⟨k - 1, by lia⟩
    have ht := su_test (n + 7) L p L.length s new (2 * p + 1) ex
    unfold descend
    by_cases hc : 2 * p + 1 < L.length
    · rw [decide_eq_true hc] at ht
      rw [if_pos hc]
      obtain ⟨r, hb⟩ := su_go n L p s new ex hex hc hl
      obtain ⟨c1, c2, c3, c4⟩ := child_spec hc
      obtain ⟨ex', h1, h2⟩ := ih (L.set p (at' L (child L p))) (child L p) k (exR r) (by rw [List.length_set]; lia) (by lia) (.inr ⟨r, rfl⟩) (by rw [List.length_set]; exact c1) (by rw [List.length_set]; exact hl)
      rw [List.length_set] at h1
      exact ⟨ex', w_next ht hb h1, h2⟩
    · rw [decide_eq_false hc] at ht
      rw [if_neg hc]
      exact ⟨ex, w_stop ht, hex⟩
end Mine.P

end

/-! part Sift6 -/
section
set_option maxRecDepth 100000
set_option autoImplicit false
set_option linter.unusedVariables false
namespace Mine.P
open PySem

theorem x_io {n : Nat} {sc : Scope} {ρ ρ1 : R} {f h : Str} {fp hp cp p : Pos} {args : List PySem.Expr} {c c' : AV} {vs : List AV} (hk : kind ⟨sc, none⟩ f = some .glob) (hk2 : kind ⟨sc, none⟩ h = some .var) (hd : isDef f theDefs = true) (ho : ownOf ρ h = some c)
    (ha : evs (RR n) ⟨sc, none⟩ ρ args = some vs) (hc : (RR n).call f (.own c :: vs.map .frz) = some (.none, some c')) (hs : setOwn ρ h c' = ρ1) : ex1N n sc ρ (.Expr (.Call (.Name f fp) (.Name h hp :: args) [] cp) p) = some (.next, ρ1) := by
  show exIo (RR n) theDefs sc ρ f h args = _
  exact hs ▸ bndI (a := (.none, setOwn ρ h c')) (ifsI ⟨isK_of hk, isK_of hk2, hd⟩ (bndI ho (bndI ha (bndI hc rfl)))) rfl

theorem descend_len : ∀ (f : Nat) (L : List Int) (p : Nat), p < L.length → (descend f L p).1.length = L.length ∧ (descend f L p).2 < L.length
  | 0, L, p, h => ⟨rfl, h⟩
  | f + 1, L, p, h => by
    unfold descend
    split
    · rename_i hc
      have := descend_len f (L.set p (at' L (child L p))) (child L p) (by rw [List.length_set]; exact (child_spec hc).1)
      rw [List.length_set] at this
      exact this
    · exact ⟨rfl, h⟩

noncomputable def siftE (L : List Int) (p : Nat) : R := ⟨[(nm "heap", .io (.list (L.map enc))), (nm "pos", .frz (.int p))], []⟩
noncomputable def siftE1 (L : List Int) (p : Nat) (e : Int) : R := ⟨[(nm "heap", .io (.list (L.map enc))), (nm "pos", .frz (.int p)), (nm "endpos", .frz (.int e))], []⟩
noncomputable def siftE2 (L : List Int) (p : Nat) (e : Int) : R := ⟨[(nm "heap", .io (.list (L.map enc))), (nm "pos", .frz (.int p)), (nm "endpos", .frz (.int e)), (nm "startpos", .frz (.int p))], []⟩
noncomputable def siftE3 (L : List Int) (p : Nat) (e : Int) (new : Int) : R := ⟨[(nm "heap", .io (.list (L.map enc))), (nm "pos", .frz (.int p)), (nm "endpos", .frz (.int e)), (nm "startpos", .frz (.int p)), (nm "newitem", .frz (enc new))], []⟩

theorem siftup_fn (n : Nat) (L : List Int) (p : Nat) (hp : p < L.length) (hl : L.length < 64) :
    (RR (n + 14)).call (nm "_siftup") [.own (.list (L.map enc)), .frz (.int p)] = some (.none, some (.list ((siftup L p).map enc))) := by
  have i1 := idx_enc L p hp (by lia)
  have m1 := mul2 p (by lia)
  obtain ⟨d1, d2⟩ := descend_len L.length L p hp
  obtain ⟨ex', w1, w2⟩ := su_while n p (at' L p) L.length L p 64 [] (by lia) hl (.inl rfl) hp (by lia)
  unfold siftup
  dsimp only
  generalize hnew : at' L p = new at *
  generalize descend L.length L p = rr at *
  obtain ⟨L1, q⟩ := rr
  dsimp only at *
  have st := store_enc L1 q (by lia) (by lia) new
  have sd := siftdown_fn n (L1.set q new) p q (by rw [List.length_set]; lia) (by rw [List.length_set]; lia)
  rw [at_set _ _ _ _ (by lia), if_pos rfl, List.length_set, d1] at sd
  generalize hres : sdown p new L.length (L1.set q new) q = res at *
  have hlen : (L.map enc).length = L.length := List.length_map ..
  have fin : ∃ ρ', exsN (n + 12) (dF 4).sc (EU L1 q L.length p new (2 * q + 1) ex') ((dF 4).body.drop 5) = some (.next, ρ') ∧ ρ'.vars.lookup (nm "heap") = some (.io (.list (res.map enc))) := by
    rcases w2 with rfl | ⟨r, rfl⟩
    · refine ⟨EU res q L.length p new (2 * q + 1) [], ?_, by kernel_rfl⟩
      refine x_cons (ρ1 := EU (L1.set q new) q L.length p new (2 * q + 1) []) (x_store (ρ1 := EU L1 q L.length p new (2 * q + 1) []) (I := ⟨.int q, false⟩) (v := enc new) (c := .list (L1.map enc)) (by kernel_rfl) (by kernel_rfl) (by kernel_rfl) (by kernel_rfl) (by kernel_rfl) st (by kernel_rfl)) ?_
      exact x_cons (x_io (c := .list ((L1.set q new).map enc)) (vs := [.int p, .int q]) (by kernel_rfl) (by kernel_rfl) (by kernel_rfl) (by kernel_rfl) (by kernel_rfl) sd (by kernel_rfl)) x_nil
    · refine ⟨EU res q L.length p new (2 * q + 1) (exR r), ?_, by kernel_rfl⟩
      refine x_cons (ρ1 := EU (L1.set q new) q L.length p new (2 * q + 1) (exR r)) (x_store (ρ1 := EU L1 q L.length p new (2 * q + 1) (exR r)) (I := ⟨.int q, false⟩) (v := enc new) (c := .list (L1.map enc)) (by kernel_rfl) (by kernel_rfl) (by kernel_rfl) (by kernel_rfl) (by kernel_rfl) st (by kernel_rfl)) ?_
      exact x_cons (x_io (c := .list ((L1.set q new).map enc)) (vs := [.int p, .int q]) (by kernel_rfl) (by kernel_rfl) (by kernel_rfl) (by kernel_rfl) (by kernel_rfl) sd (by kernel_rfl)) x_nil
  obtain ⟨ρ', f1, f2⟩ := fin
  refine call_io (n := n + 13) (d := dF 4) (p := nm "heap") (ps := [nm "pos"]) (ρ' := ρ') (fl := .next) (by kernel_rfl) (by kernel_rfl) rfl ?_ rfl f2
  refine (ex_S (n := n + 12)).trans ?_
  refine x_cons (ρ1 := siftE1 L p L.length) (x_name (v := .int L.length) (ρ1 := siftE L p) rfl (by kernel_rfl) (by
    have := e_len (n := n + 11) (cx := ⟨(dF 4).sc, none⟩) (ρ := siftE L p) (a := .Name (nm "heap") ⟨0,0,0,0⟩) (fp := ⟨0,0,0,0⟩) (p := ⟨0,0,0,0⟩) (l := L.map enc) (o := true) (by kernel_rfl) rfl (by kernel_rfl) (by lia)
    rw [hlen] at this
    exact this) (by kernel_rfl)) ?_
  refine x_cons (ρ1 := siftE2 L p L.length) (x_name (v := .int p) (ρ1 := siftE1 L p L.length) rfl (by kernel_rfl) (by kernel_rfl) (by kernel_rfl)) ?_
  refine x_cons (ρ1 := siftE3 L p L.length new) (x_name (ρ1 := siftE2 L p L.length) rfl (by kernel_rfl) (e_sub (A := ⟨.list (L.map enc), true⟩) (B := ⟨.int p, false⟩) rfl (by kernel_rfl) (by kernel_rfl) i1) (by kernel_rfl)) ?_
  refine x_cons (ρ1 := EU L p L.length p new (2 * p + 1) []) (x_name (v := .int (2 * (p : Int) + 1)) (ρ1 := siftE3 L p L.length new) rfl (by kernel_rfl) (e_bin (n := n + 11) (A := ⟨.int (2 * (p : Int)), false⟩) (B := ⟨.int 1, false⟩) (e_bin (n := n + 10) (A := ⟨.int 2, false⟩) (B := ⟨.int p, false⟩) (by kernel_rfl) (by kernel_rfl) m1) (by kernel_rfl) rfl) ?_) ?_
  · have : (2 * (p : Int) + 1) = ((2 * p + 1 : Nat) : Int) := by push_cast; rfl
    rw [this]
    kernel_rfl
  exact x_cons (x_while w1) f1
end Mine.P

end

/-! part Sift7 -/
section
set_option maxRecDepth 100000
set_option autoImplicit false
set_option linter.unusedVariables false
namespace Mine.P
open PySem

section
variable {n : Nat} {sc : Scope} {cx : CX} {ρ ρ1 ρ2 ρ' : R} {res : Option (Fl × R)}

theorem x_forrev {t e : PySem.Expr} {f g : Str} {p1 p2 p3 p4 p5 : Pos} {body : List Stmt} {k : Nat} (hf : f = nm "reversed") (hg : g = nm "range") (hs : notStar e = true) (hk1 : kind ⟨sc, none⟩ f = some .glob) (hk2 : kind ⟨sc, none⟩ g = some .glob)
    {o : Bool} (he : (RR n).ev ⟨sc, none⟩ ρ e = some ⟨.int (k : Int), o⟩) (hsm : k < 1000000) (h : forA (RR n) sc t body ((List.range k).reverse.map fun i => .int (i : Nat)) ρ = res) :
    ex1N n sc ρ (.For t (.Call (.Name f p1) [.Call (.Name g p2) [e] [] p3] [] p4) body [] p5) = res := by
  subst hf; subst hg
  show exRev (RR n) (forA (RR n)) sc ρ t (nm "reversed") (nm "range") e body = res
  exact ifsI ⟨rfl, rfl, hs, isK_of hk1, isK_of hk2⟩ (bndI (bndI he rfl) (ifsI (small_of (by omega) (by omega)) h))

theorem x_for {t it : PySem.Expr} {p : Pos} {body : List Stmt} {src : AV} {l : List AV} (hn : revForm it = none) (hs : notSet it = true) (hf : freeze ρ it = ρ1) (he : (RR n).ev ⟨sc, none⟩ ρ1 it = some ⟨src, false⟩) (hi : iterA t src = some l) (hl : l.length ≤ 4096)
    (h : forA (RR n) sc t body l ρ1 = res) : ex1N n sc ρ (.For t it body [] p) = res := by
  show (revForm it).elim (exForA (RR n) (forA (RR n)) sc ρ t it body) (fun q => exRev (RR n) (forA (RR n)) sc ρ t q.1 q.2.1 q.2.2 body) = res
  refine noneI hn ?_
  unfold exForA
  rw [hf]
  exact ifsI hs (bndI (clean_of he) (bndI hi (ifsI hl h)))

theorem f_nil {t : PySem.Expr} {body : List Stmt} {r : Rec} : forA r sc t body [] ρ = some (.next, ρ) := rfl
theorem f_next {t : PySem.Expr} {body : List Stmt} {r : Rec} {v : AV} {vs : List AV} (h1 : assignA sc t v ρ = some ρ1) (h2 : r.ex sc ρ1 body = some (.next, ρ2)) (h3 : forA r sc t body vs ρ2 = res) : forA r sc t body (v :: vs) ρ = res := bndI h1 (bndI h2 h3)
theorem f_ret {t : PySem.Expr} {body : List Stmt} {r : Rec} {v w : AV} {vs : List AV} (h1 : assignA sc t v ρ = some ρ1) (h2 : r.ex sc ρ1 body = some (.ret w, ρ2)) : forA r sc t body (v :: vs) ρ = some (.ret w, ρ2) := bndI h1 (bndI h2 rfl)

theorem x_pop {x h m : Str} {xp hp apos pos p : Pos} {l l' : List AV} {v : AV} (hm : m = nm "pop") (hlo : lineOk apos pos = true) (hk : kind ⟨sc, none⟩ h = some .var) (ho : ownOf ρ h = some (.list l)) (hl : l.length ≤ 4096) (hpop : popA l = some (v, l'))
    (hs : setV sc (setOwn ρ h (.list l')) x (.frz v) = some ρ1) : ex1N n sc ρ (.Assign [.Name x xp] (.Call (.Attribute (.Name h hp) m apos) [] [] pos) p) = some (.next, ρ1) := by
  subst hm
  show exPop sc ρ x h (nm "pop") apos pos = _
  exact ifsI ⟨rfl, hlo, isK_of hk⟩ (bndI ho (bndI rfl (ifsI hl (bndI hpop (mpdI hs)))))

theorem x_ret {e : PySem.Expr} {p : Pos} {v : AV} (hf : freeze ρ e = ρ1) (h1 : (RR n).ev ⟨sc, none⟩ ρ1 e = some ⟨v, false⟩) : ex1N n sc ρ (.Return (some e) p) = some (.ret v, ρ1) := by
  show exRet (RR n) sc ρ e = _
  unfold exRet
  rw [hf]
  exact mpdI (clean_of h1)

theorem t_name {x : Str} {p : Pos} {A : AR} {c : Bool} (h1 : (RR n).ev cx ρ (.Name x p) = some A) (h2 : truthA A.v = some c) : (RR (n + 1)).ts cx ρ (.Name x p) = some c := by
  exact bndI h1 h2
end

/-! heapify -/

noncomputable def hE (L : List Int) (k : Int) (ex : List (Str × Var)) : R := ⟨(nm "x", .io (.list (L.map enc))) :: (nm "n", .frz (.int k)) :: ex, []⟩
noncomputable def hEx (i : Nat) : List (Str × Var) := [(nm "i", .frz (.int i))]
noncomputable def hfT : PySem.Expr := match (dF 2).body with | [_, .For t _ _ _ _] => t | _ => .Constant .none 0 ⟨0, 0, 0, 0⟩
noncomputable def hfB : List Stmt := match (dF 2).body with | [_, .For _ _ b _ _] => b | _ => []

theorem siftup_len {L : List Int} {p : Nat} (hp : p < L.length) : (siftup L p).length = L.length := by
  have : ∀ (f s : Nat) (new : Int) (L : List Int) (p : Nat), (sdown s new f L p).length = L.length := by
    intro f
    induction f with
    | zero => intro s new L p; simp [sdown]
    | succ f ih =>
      intro s new L p
      unfold sdown
      split
      · split
        · rw [ih, List.length_set]
        · simp
      · simp
  unfold siftup
  rw [this, List.length_set]
  exact (descend_len _ _ _ hp).1

theorem hf_go (n : Nat) (k : Int) : ∀ (m : Nat) (L : List Int) (ex : List (Str × Var)), m ≤ L.length → L.length < 64 → (ex = [] ∨ ∃ i, ex = hEx i) →
    ∃ ex', forA (RR (n + 16)) (dF 2).sc hfT hfB ((List.range m).reverse.map fun i => .int (i : Nat)) (hE L k ex) = some (.next, hE ((List.range m).reverse.foldl siftup L) k ex')
  | 0, L, ex, hm, hl, hex => ⟨ex, f_nil⟩
  | m + 1, L, ex, hm, hl, hex => by
    have sf := siftup_fn (n + 1) L m (by omega) hl
    have hlen := siftup_len (L := L) (p := m) (by omega)
    obtain ⟨ex', h⟩ := hf_go n k m (siftup L m) (hEx m) (by omega) (by omega) (.inr ⟨m, rfl⟩)
    rw [List.range_succ, List.reverse_append, List.reverse_singleton, List.singleton_append, List.foldl_cons, List.map_cons]
    refine ⟨ex', f_next (ρ1 := hE L k (hEx m)) (ρ2 := hE (siftup L m) k (hEx m)) ?_ ?_ h⟩
    · rcases hex with rfl | ⟨i, rfl⟩ <;> kernel_rfl
    · refine (ex_S (n := n + 15)).trans ?_
      generalize siftup L m = L2 at *
      exact x_cons (x_io (n := n + 15) (c := .list (L.map enc)) (vs := [.int m]) (by kernel_rfl) (by kernel_rfl) (by kernel_rfl) (by kernel_rfl) (by kernel_rfl) sf (by kernel_rfl)) x_nil

theorem heapify_fn (n : Nat) (L : List Int) (hl : L.length < 64) : (RR (n + 18)).call (nm "heapify") [.own (.list (L.map enc))] = some (.none, some (.list ((heapifyS L).map enc))) := by
  have hlen : (L.map enc).length = L.length := List.length_map ..
  obtain ⟨ex', h⟩ := hf_go n L.length (L.length / 2) L [] (by omega) hl (.inl rfl)
  refine call_io (n := n + 17) (d := dF 2) (p := nm "x") (ps := []) (ρ' := hE (heapifyS L) L.length ex') (fl := .next) (by kernel_rfl) (by kernel_rfl) rfl ?_ rfl (by kernel_rfl)
  refine (ex_S (n := n + 16)).trans ?_
  refine x_cons (ρ1 := hE L L.length []) (x_name (v := .int L.length) (ρ1 := ⟨[(nm "x", .io (.list (L.map enc)))], []⟩) rfl (by kernel_rfl) (by
    have := e_len (n := n + 15) (cx := ⟨(dF 2).sc, none⟩) (ρ := ⟨[(nm "x", .io (.list (L.map enc)))], []⟩) (a := .Name (nm "x") ⟨0,0,0,0⟩) (fp := ⟨0,0,0,0⟩) (p := ⟨0,0,0,0⟩) (l := L.map enc) (o := true) (by kernel_rfl) rfl (by kernel_rfl) (by omega)
    rw [hlen] at this
    exact this) (by kernel_rfl)) ?_
  have hdiv : binA .FloorDiv (.int L.length) (.int 2) = some (.int ((L.length / 2 : Nat) : Int)) := by
    rw [b_fdiv, if_pos ⟨small_of (by omega) (by omega), small_of (by decide) (by decide), by decide⟩]
    simp [Int.fdiv_eq_ediv_of_nonneg]
  refine x_cons (ρ1 := hE (heapifyS L) L.length ex') (x_forrev (k := L.length / 2) (o := false) rfl rfl rfl (by kernel_rfl) (by kernel_rfl) (e_bin (n := n + 15) (A := ⟨.int L.length, false⟩) (B := ⟨.int 2, false⟩) (by kernel_rfl) (by kernel_rfl) hdiv) (by omega) h) x_nil
end Mine.P

end

/-! part Sift8 -/
section
set_option maxRecDepth 100000
set_option autoImplicit false
set_option linter.unusedVariables false
namespace Mine.P
open PySem

/-! heappop -/

noncomputable def pE (L : List Int) (ex : List (Str × Var)) : R := ⟨(nm "heap", .io (.list (L.map enc))) :: ex, []⟩

theorem heappop_fn (n : Nat) (L : List Int) (h0 : 0 < L.length) (hl : L.length < 64) : (RR (n + 18)).call (nm "heappop") [.own (.list (L.map enc))] = some (enc (popS L).1, some (.list ((popS L).2.map enc))) := by
  have hL : L ≠ [] := fun q => by subst q; simp at h0
  have hlast : at' L (L.length - 1) = L.getLast hL := by rw [at_get _ _ (by lia), List.getLast_eq_getElem]
  have hpop : popA (L.map enc) = some (enc (at' L (L.length - 1)), L.dropLast.map enc) := by
    rw [hlast]
    unfold popA
    rw [List.getLast?_map, List.getLast?_eq_some_getLast hL]
    simp
  have hlm : (L.map enc).length ≤ 4096 := by rw [List.length_map]; lia
  unfold popS
  dsimp only
  generalize at' L (L.length - 1) = last at *
  have hl2 : L.dropLast.length = L.length - 1 := List.length_dropLast
  generalize hM : L.dropLast = M at *
  have step1 : ex1N (n + 16) (dF 1).sc (pE L []) ((dF 1).body.headD (.Break ⟨0,0,0,0⟩)) = some (.next, pE M [(nm "lastelt", .frz (enc last))]) :=
    x_pop (l := L.map enc) (l' := M.map enc) (v := enc last) rfl (by kernel_rfl) (by kernel_rfl) (by kernel_rfl) hlm hpop (by kernel_rfl)
  have htr : truthA (.list (M.map enc)) = some (!M.isEmpty) := by
    refine tif (by rw [List.length_map]; lia) ?_
    cases M <;> rfl
  have test : (RR (n + 16)).ts ⟨(dF 1).sc, none⟩ (pE M [(nm "lastelt", .frz (enc last))]) (.Name (nm "heap") ⟨0,0,0,0⟩) = some (!M.isEmpty) := t_name (n := n + 15) (A := ⟨.list (M.map enc), true⟩) (by kernel_rfl) htr
  cases M with
  | nil =>
    refine call_io (n := n + 17) (d := dF 1) (p := nm "heap") (ps := []) (ρ' := pE [] [(nm "lastelt", .frz (enc last))]) (fl := .ret (enc last)) (by kernel_rfl) (by kernel_rfl) rfl ?_ rfl (by kernel_rfl)
    refine (ex_S (n := n + 16)).trans ?_
    refine x_cons step1 ?_
    refine x_cons (ρ1 := pE [] [(nm "lastelt", .frz (enc last))]) (x_if (ρ1 := pE [] [(nm "lastelt", .frz (enc last))]) (c := false) (by kernel_rfl) test ?_) (x_out (by intro h; cases h) (x_ret (ρ1 := pE [] [(nm "lastelt", .frz (enc last))]) (by kernel_rfl) (by kernel_rfl)))
    rw [if_neg (by decide)]
    exact (ex_S (n := n + 15)).trans x_nil
  | cons m M =>
    have i1 := idx_enc (m :: M) 0 (by simp) (by lia)
    have s1 := store_enc (m :: M) 0 (by simp) (by lia) last
    have sf := siftup_fn (n + 1) ((m :: M).set 0 last) 0 (by simp) (by rw [List.length_set]; lia)
    have e0 : at' (m :: M) 0 = m := rfl
    rw [e0] at i1 ⊢
    rw [if_neg (by simp)]
    have hset : (m :: M).set 0 last = last :: M := rfl
    rw [hset] at *
    generalize siftup (last :: M) 0 = F at *
    refine call_io (n := n + 17) (d := dF 1) (p := nm "heap") (ps := []) (ρ' := pE F [(nm "lastelt", .frz (enc last)), (nm "returnitem", .frz (enc m))]) (fl := .ret (enc m)) (by kernel_rfl) (by kernel_rfl) rfl ?_ rfl (by kernel_rfl)
    refine (ex_S (n := n + 16)).trans ?_
    refine x_cons step1 ?_
    refine x_out (by intro h; cases h) (x_if (ρ1 := pE (m :: M) [(nm "lastelt", .frz (enc last))]) (c := true) (by kernel_rfl) test ?_)
    rw [if_pos (by decide)]
    refine (ex_S (n := n + 15)).trans ?_
    refine x_cons (ρ1 := pE (m :: M) [(nm "lastelt", .frz (enc last)), (nm "returnitem", .frz (enc m))]) (x_name (ρ1 := pE (m :: M) [(nm "lastelt", .frz (enc last))]) rfl (by kernel_rfl) (e_sub (n := n + 14) (A := ⟨.list ((m :: M).map enc), true⟩) (B := ⟨.int (0 : Nat), false⟩) rfl (by kernel_rfl) (by kernel_rfl) i1) (by kernel_rfl)) ?_
    refine x_cons (ρ1 := pE (last :: M) [(nm "lastelt", .frz (enc last)), (nm "returnitem", .frz (enc m))]) (x_store (ρ1 := pE (m :: M) [(nm "lastelt", .frz (enc last)), (nm "returnitem", .frz (enc m))]) (I := ⟨.int (0 : Nat), false⟩) (v := enc last) (c := .list ((m :: M).map enc)) (by kernel_rfl) (by kernel_rfl) (by kernel_rfl) (by kernel_rfl) (by kernel_rfl) s1 (by kernel_rfl)) ?_
    refine x_cons (ρ1 := pE F [(nm "lastelt", .frz (enc last)), (nm "returnitem", .frz (enc m))]) (x_io (c := .list ((last :: M).map enc)) (vs := [.int (0 : Nat)]) (by kernel_rfl) (by kernel_rfl) (by kernel_rfl) (by kernel_rfl) (by kernel_rfl) sf (by kernel_rfl)) ?_
    exact x_out (by intro h; cases h) (x_ret (ρ1 := pE F [(nm "lastelt", .frz (enc last)), (nm "returnitem", .frz (enc m))]) (by kernel_rfl) (by kernel_rfl))
end Mine.P

end

/-! part Sym4 -/
section
set_option maxRecDepth 100000
set_option autoImplicit false
set_option linter.unusedVariables false
namespace Mine.P
open PySem

/-! comprehensions -/

/-- what one item of a comprehension gives -/
noncomputable def stepG {β : Type} (r : Rec) (cx : CX) (emit : R → Option β) (t : PySem.Expr) (ifs : List PySem.Expr) (ρ : R) (v : AV) : Option (Option β) :=
  (bindT cx ρ t v).bind fun ρ1 => (testsA r cx ρ1 ifs).bind fun c => if c = true then (emit ρ1).map some else some none

theorem step_yes {β : Type} {r : Rec} {cx : CX} {emit : R → Option β} {t : PySem.Expr} {ifs : List PySem.Expr} {ρ ρ1 : R} {v : AV} {b : β} (h1 : bindT cx ρ t v = some ρ1) (h2 : testsA r cx ρ1 ifs = some true) (h3 : emit ρ1 = some b) : stepG r cx emit t ifs ρ v = some (some b) := bndI h1 (bndI h2 (tif rfl (mpdI h3)))
theorem step_no {β : Type} {r : Rec} {cx : CX} {emit : R → Option β} {t : PySem.Expr} {ifs : List PySem.Expr} {ρ ρ1 : R} {v : AV} (h1 : bindT cx ρ t v = some ρ1) (h2 : testsA r cx ρ1 ifs = some false) : stepG r cx emit t ifs ρ v = some none := bndI h1 (bndI h2 (eif (by decide) rfl))

theorem comp_go {β : Type} {r : Rec} {cx : CX} {emit : R → Option β} {t : PySem.Expr} {ifs : List PySem.Expr} {ρ : R} {g : AV → Option β} : ∀ (l : List AV) (acc : List β), (∀ v ∈ l, stepG r cx emit t ifs ρ v = some (g v)) → acc.length + l.length ≤ 4096 →
    compA r cx emit t ifs none ρ l acc = some (acc ++ l.filterMap g)
  | [], acc, h, hl => by unfold compA; simp
  | v :: vs, acc, h, hl => by
    have hv := h v List.mem_cons_self
    have ht : ∀ u ∈ vs, stepG r cx emit t ifs ρ u = some (g u) := fun u hu => h u (List.mem_cons_of_mem _ hu)
    simp only [List.length_cons] at hl
    refine bnd hv fun ρ1 hb hv => bnd hv fun c hts hv => ?_
    refine bndI hb (bndI hts ?_)
    induction c using Bool.casesOn with
    | false =>
      have hg : g v = none := (Option.some.inj hv).symm
      refine bndI (a := acc) rfl ((comp_go vs acc ht (by omega)).trans ?_)
      simp [hg]
    | true =>
      refine mpd hv fun b he hv => ?_
      have hg : g v = some b := hv.symm
      refine bndI (a := acc ++ [b]) (tif rfl (tif (by omega) (mpdI he))) ((comp_go vs (acc ++ [b]) ht (by simp; omega)).trans ?_)
      simp [hg]

section
variable {n : Nat} {sc cs : Scope} {cx : CX} {ρ ρ1 : R}

theorem emitL_of {e : PySem.Expr} {v : AV} (h : (RR n).ev cx ρ e = some ⟨v, false⟩) : emitL (RR n) cx e ρ = some v := clean_of h
theorem emitD_of {k e : PySem.Expr} {s : Str} {o : Bool} {v : AV} (h1 : (RR n).ev cx ρ k = some ⟨.str s, o⟩) (h : (RR n).ev cx ρ e = some ⟨v, false⟩) : emitD (RR n) cx k e ρ = some (s, v) := bndI (bndI h1 rfl) (mpdI (clean_of h))

theorem srcA_of {g : Comprehension} {src : AV} {l : List AV} (h0 : g.is_async = 0) (h1 : (RR n).ev cx ρ g.iter = some ⟨src, false⟩) (h2 : iterA g.target src = some l) (hl : l.length ≤ 4096) (hn : noItems src = true) : srcA (RR n) cx ρ g = some l :=
  ifsI h0 (bndI (clean_of h1) (bndI h2 (ifsI ⟨hl, hn⟩ rfl)))

theorem compr1 {β : Type} {emit : R → Option β} {t it : PySem.Expr} {ifs : List PySem.Expr} {src : AV} {l : List AV} {g : AV → Option β} (hok : (scopeOk sc cs && notSet it) = true) (h1 : (RR n).ev ⟨sc, none⟩ ρ it = some ⟨src, false⟩) (h2 : iterA t src = some l) (hl : l.length ≤ 4096) (hn : noItems src = true)
    (hg : ∀ v ∈ l, stepG (RR n) ⟨sc, some cs⟩ emit t ifs { ρ with comp := [] } v = some (g v)) : comprA (RR n) ⟨sc, none⟩ cs ρ emit [⟨t, it, ifs, 0⟩] = some (l.filterMap g) := by
  rw [Bool.and_eq_true] at hok
  refine ifsI ?_ (someI (a := ⟨t, it, ifs, 0⟩) rfl (bndI (srcA_of rfl h1 h2 hl hn) ((comp_go l [] hg (by simpa using hl)).trans rfl)))
  rw [hok.1]; simp [hok.2]

theorem e_lc {e t it : PySem.Expr} {ifs : List PySem.Expr} {p : Pos} {src : AV} {l : List AV} {g : AV → Option AV} (hok : (scopeOk sc cs && notSet it) = true) (h1 : (RR n).ev ⟨sc, none⟩ ρ it = some ⟨src, false⟩) (h2 : iterA t src = some l) (hl : l.length ≤ 4096) (hn : noItems src = true)
    (hg : ∀ v ∈ l, stepG (RR n) ⟨sc, some cs⟩ (emitL (RR n) ⟨sc, some cs⟩ e) t ifs { ρ with comp := [] } v = some (g v)) : (RR (n + 1)).ev ⟨sc, none⟩ ρ (.ListComp e [⟨t, it, ifs, 0⟩] cs p) = some ⟨.list (l.filterMap g), false⟩ := by
  exact ifsI (c := (none : Option Scope).isNone = true) rfl (mpdI (compr1 (emit := emitL (RR n) ⟨sc, some cs⟩ e) hok h1 h2 hl hn hg))
theorem e_dc {k e t it : PySem.Expr} {ifs : List PySem.Expr} {p : Pos} {src : AV} {l : List AV} {g : AV → Option (Str × AV)} (hok : (scopeOk sc cs && notSet it) = true) (h1 : (RR n).ev ⟨sc, none⟩ ρ it = some ⟨src, false⟩) (h2 : iterA t src = some l) (hl : l.length ≤ 4096) (hn : noItems src = true)
    (hg : ∀ v ∈ l, stepG (RR n) ⟨sc, some cs⟩ (emitD (RR n) ⟨sc, some cs⟩ k e) t ifs { ρ with comp := [] } v = some (g v)) : (RR (n + 1)).ev ⟨sc, none⟩ ρ (.DictComp k e [⟨t, it, ifs, 0⟩] cs p) = some ⟨.dict ((l.filterMap g).foldl (fun d p => put d p.1 p.2) []), false⟩ := by
  exact ifsI (c := (none : Option Scope).isNone = true) rfl (mpdI (compr1 (emit := emitD (RR n) ⟨sc, some cs⟩ k e) hok h1 h2 hl hn hg))

theorem ts_one {c : PySem.Expr} {b : Bool} (h : (RR n).ts cx ρ c = some b) : testsA (RR n) cx ρ [c] = some b := eif Bool.false_ne_true (bndI rfl h)

/-! calls -/
theorem evs_nil : evs (RR n) cx ρ [] = some [] := rfl
theorem evs_cons {e : PySem.Expr} {es : List PySem.Expr} {v : AV} {vs : List AV} (hs : notStar e = true) (h1 : (RR n).ev cx ρ e = some ⟨v, false⟩) (h2 : evs (RR n) cx ρ es = some vs) : evs (RR n) cx ρ (e :: es) = some (v :: vs) := ifsI hs (bndI (clean_of h1) (mpdI h2))

theorem e_meth {o : PySem.Expr} {m : Str} {apos pos : Pos} {args : List PySem.Expr} {A : AR} {vs : List AV} {v : AV} (hlo : (lineOk apos pos && baseOk o && decide (args.length < 20)) = true) (h1 : (RR n).ev cx ρ o = some A) (hi : (clean A).bind asInst = none) (h2 : evs (RR n) cx ρ args = some vs) (h3 : methA m A.v vs = some v)
    (hv : isView v = false) : (RR (n + 1)).ev cx ρ (.Call (.Attribute o m apos) args [] pos) = some ⟨v, false⟩ := by
  simp only [Bool.and_eq_true, decide_eq_true_eq] at hlo
  show evMeth (RR n) cx ρ o m apos args pos = _
  exact ifsI ⟨hlo.1.1, hlo.1.2, hlo.2⟩ (bndI h1 (bndI h2 (noneI hi (bndI h3 (eif (by rw [hv, Bool.and_false]; decide) rfl)))))

theorem e_call {f : Str} {fp p : Pos} {args : List PySem.Expr} {vs : List AV} {v : AV} (hk : kind cx f = some .glob) (hd : (decide (f ≠ nm "isinstance") && decide (f ≠ nm "TupleComp") && isDef f theDefs) = true) (h1 : evs (RR n) cx ρ args = some vs) (h2 : (RR n).call f (vs.map .frz) = some (v, none)) :
    (RR (n + 1)).ev cx ρ (.Call (.Name f fp) args [] p) = some ⟨v, false⟩ := by
  simp only [Bool.and_eq_true, decide_eq_true_eq] at hd
  show evFn (RR n) theDefs cx ρ f args = _
  exact ifsI (isK_of hk) (eif hd.1.1 (eif hd.1.2 (tif hd.2 (bndI h1 (mpdI (bndI h2 rfl))))))

/-- statements -/
theorem x_unio {ts : List PySem.Expr} {f h : Str} {fp hp cp q p : Pos} {args : List PySem.Expr} {c c' v : AV} {vs : List AV} {ρ2 : R} {kk : Nat} (hk : kind ⟨sc, none⟩ f = some .glob) (hk2 : kind ⟨sc, none⟩ h = some .var) (hd : isDef f theDefs = true) (ho : ownOf ρ h = some c)
    (ha : evs (RR n) ⟨sc, none⟩ ρ args = some vs) (hc : (RR n).call f (.own c :: vs.map .frz) = some (v, some c')) (hs : setOwn ρ h c' = ρ1) (h2 : assignA sc (.Tuple ts kk q) v ρ1 = some ρ2) : ex1N n sc ρ (.Assign [.Tuple ts kk q] (.Call (.Name f fp) (.Name h hp :: args) [] cp) p) = some (.next, ρ2) := by
  show exCallT (RR n) theDefs sc ρ ts kk q f fp h hp args cp = _
  exact tif (by rw [ho]; rfl) (bndI (a := (v, ρ1)) (ifsI ⟨isK_of hk, isK_of hk2, hd⟩ (bndI ho (bndI ha (bndI hc (hs ▸ rfl))))) (mpdI h2))

theorem x_append {x m : Str} {xp apos pos p : Pos} {e : PySem.Expr} {v : AV} {l : List AV} {ρ2 : R} (hm : (decide (m = nm "append") && lineOk apos pos && notStar e) = true) (hf : freeze ρ e = ρ1) (hk : kind ⟨sc, none⟩ x = some .var) (h1 : (RR n).ev ⟨sc, none⟩ ρ1 e = some ⟨v, false⟩) (ho : ownOf ρ1 x = some (.list l)) (hl : l.length ≤ 4096)
    (hs : setOwn ρ1 x (.list (l ++ [v])) = ρ2) : ex1N n sc ρ (.Expr (.Call (.Attribute (.Name x xp) m apos) [e] [] pos) p) = some (.next, ρ2) := by
  simp only [Bool.and_eq_true, decide_eq_true_eq] at hm
  show exAppend (RR n) sc ρ x m e apos pos = _
  unfold exAppend
  rw [hf]
  exact hs ▸ ifsI ⟨hm.1.1, hm.1.2, hm.2, isK_of hk⟩ (bndI (clean_of h1) (bndI (bndI ho rfl) (ifsI hl rfl)))
end
end Mine.P

end

/-! part Sym5 -/
section
set_option maxRecDepth 100000
set_option autoImplicit false
set_option linter.unusedVariables false
namespace Mine.P
open PySem

theorem bound_of {l : Int} (h : small l = true) : boundA (some (.int l)) = some (some l) := someI rfl (bndI rfl (ifsI h rfl))
/-- two clauses, no test in the first -/
theorem comp_go2 {β : Type} {n : Nat} {sc cs : Scope} {emit : R → Option β} {t t2 it2 : PySem.Expr} {ifs2 : List PySem.Expr} {ρ : R} {l2 : List AV} {g : AV → AV → Option β} (hl2 : l2.length ≤ 4096) : ∀ (l : List AV) (acc : List β),
    (∀ v ∈ l, ∃ ρ1 src2, bindT ⟨sc, some cs⟩ ρ t v = some ρ1 ∧ (RR n).ev ⟨sc, some cs⟩ ρ1 it2 = some ⟨src2, false⟩ ∧ iterA t2 src2 = some l2 ∧ noItems src2 = true ∧ ∀ u ∈ l2, stepG (RR n) ⟨sc, some cs⟩ emit t2 ifs2 ρ1 u = some (g v u)) → acc.length + l.length * l2.length ≤ 4096 →
    compA (RR n) ⟨sc, some cs⟩ (fun _ => none) t [] (some fun ρ1 acc => (srcA (RR n) ⟨sc, some cs⟩ ρ1 ⟨t2, it2, ifs2, 0⟩).bind fun l2 => compA (RR n) ⟨sc, some cs⟩ emit t2 ifs2 none ρ1 l2 acc) ρ l acc = some (acc ++ l.flatMap fun v => l2.filterMap (g v))
  | [], acc, h, hl => by unfold compA; simp
  | v :: vs, acc, h, hl => by
    obtain ⟨ρ1, src2, h1, h2, h3, h4, h5⟩ := h v List.mem_cons_self
    have hm : (vs.length + 1) * l2.length = vs.length * l2.length + l2.length := Nat.succ_mul ..
    simp only [List.length_cons] at hl
    have hf := List.length_filterMap_le (g v) l2
    refine bndI h1 (bndI (a := true) rfl (bndI (a := acc ++ l2.filterMap (g v)) (tif rfl (someI rfl (bndI (srcA_of rfl h2 h3 hl2 h4) (comp_go l2 acc h5 (by omega))))) ?_))
    refine (comp_go2 hl2 vs (acc ++ l2.filterMap (g v)) (fun u hu => h u (List.mem_cons_of_mem _ hu)) (by simp; omega)).trans ?_
    simp

section
variable {n : Nat} {sc cs : Scope} {cx : CX} {ρ ρ1 : R}

theorem e_lc2 {e t it t2 it2 : PySem.Expr} {ifs2 : List PySem.Expr} {p : Pos} {src : AV} {l l2 : List AV} {g : AV → AV → Option AV} (hok : (scopeOk sc cs && notSet it && notSet it2) = true) (h1 : (RR n).ev ⟨sc, none⟩ ρ it = some ⟨src, false⟩) (h2 : iterA t src = some l) (hl : l.length ≤ 4096) (hl2 : l2.length ≤ 4096) (hll : l.length * l2.length ≤ 4096) (hn : noItems src = true)
    (hg : ∀ v ∈ l, ∃ ρ1 src2, bindT ⟨sc, some cs⟩ { ρ with comp := [] } t v = some ρ1 ∧ (RR n).ev ⟨sc, some cs⟩ ρ1 it2 = some ⟨src2, false⟩ ∧ iterA t2 src2 = some l2 ∧ noItems src2 = true ∧ ∀ u ∈ l2, stepG (RR n) ⟨sc, some cs⟩ (emitL (RR n) ⟨sc, some cs⟩ e) t2 ifs2 ρ1 u = some (g v u)) :
    (RR (n + 1)).ev ⟨sc, none⟩ ρ (.ListComp e [⟨t, it, [], 0⟩, ⟨t2, it2, ifs2, 0⟩] cs p) = some ⟨.list (l.flatMap fun v => l2.filterMap (g v)), false⟩ := by
  simp only [Bool.and_eq_true] at hok
  have := comp_go2 (emit := emitL (RR n) ⟨sc, some cs⟩ e) (t2 := t2) (it2 := it2) (ifs2 := ifs2) hl2 l [] hg (by simpa using hll)
  exact ifsI (c := (none : Option Scope).isNone = true) rfl (mpdI (ifsI (by rw [hok.1.1]; simp [hok.1.2, hok.2]) (noneI rfl (bndI (a := (⟨t, it, [], 0⟩, ⟨t2, it2, ifs2, 0⟩)) rfl (bndI (srcA_of rfl h1 h2 hl hn) this)))))

theorem e_len2 {a : PySem.Expr} {fp p : Pos} {v : AV} {o : Bool} {k : Nat} (hk : kind cx (nm "len") = some .glob) (hst : notStar a = true) (h1 : (RR n).ev cx ρ a = some ⟨v, o⟩) (hl : lenA v = some (k : Int)) (hs : k < 1000000) :
    (RR (n + 1)).ev cx ρ (.Call (.Name (nm "len") fp) [a] [] p) = some ⟨.int k, false⟩ := by
  have hsm : small (k : Int) = true := small_of (by omega) (by omega)
  have he : evrs (RR n) cx ρ [a] = some [⟨v, o⟩] := ifsI hst (bndI h1 rfl)
  show evFn (RR n) theDefs cx ρ (nm "len") [a] = _
  exact ifsI (isK_of hk) (eif (by decide) (eif (by decide) (eif (by rw [len_notdef]; decide) (bndI he (mpdI (eif (by decide) (eif (by decide) (bndI rfl (tif rfl (bndI hl (ifsI hsm rfl)))))))))))

/-- other built-in functions of one value -/
theorem e_built {f : Str} {args : List PySem.Expr} {fp p : Pos} {vs : List AR} {w : AV} (hk : kind cx f = some .glob) (hd : (decide (f ≠ nm "isinstance") && decide (f ≠ nm "TupleComp") && !isDef f theDefs) = true) (h1 : evrs (RR n) cx ρ args = some vs) (h2 : builtinA f vs = some w) :
    (RR (n + 1)).ev cx ρ (.Call (.Name f fp) args [] p) = some ⟨w, false⟩ := by
  simp only [Bool.and_eq_true, decide_eq_true_eq, Bool.not_eq_true'] at hd
  show evFn (RR n) theDefs cx ρ f args = _
  exact ifsI (isK_of hk) (eif hd.1.1 (eif hd.1.2 (eif (by rw [hd.2]; decide) (bndI h1 (mpdI h2)))))
theorem evrs_nil : evrs (RR n) cx ρ [] = some [] := rfl
theorem evrs_cons {e : PySem.Expr} {es : List PySem.Expr} {v : AR} {vs : List AR} (hs : notStar e = true) (h1 : (RR n).ev cx ρ e = some v) (h2 : evrs (RR n) cx ρ es = some vs) : evrs (RR n) cx ρ (e :: es) = some (v :: vs) := ifsI hs (bndI h1 (mpdI h2))
theorem e_tup {es : List PySem.Expr} {k : Nat} {q : Pos} {vs : List AV} (h1 : evs (RR n) cx ρ es = some vs) (hl : vs.length ≤ 4096) : (RR (n + 1)).ev cx ρ (.Tuple es k q) = some ⟨.tup vs, false⟩ := bndI h1 (ifsI hl rfl)
theorem e_list {es : List PySem.Expr} {q : Pos} {vs : List AV} (h1 : evs (RR n) cx ρ es = some vs) (hl : vs.length ≤ 4096) : (RR (n + 1)).ev cx ρ (.List es q) = some ⟨.list vs, false⟩ := bndI h1 (ifsI hl rfl)
theorem e_neg {e : PySem.Expr} {q : Pos} {i : Int} {o : Bool} (h1 : (RR n).ev cx ρ e = some ⟨.int i, o⟩) : (RR (n + 1)).ev cx ρ (.UnaryOp .USub e q) = some ⟨.int (-i), false⟩ := ifsI (c := isUSub .USub = true) rfl (mpdI (f := fun i => mkR (.int (-i))) (bndI (f := intV) h1 rfl))
theorem e_if {t a b : PySem.Expr} {q : Pos} {c : Bool} {res : Option AR} (h1 : (RR n).ts cx ρ t = some c) (h2 : (RR n).ev cx ρ (if c = true then a else b) = res) : (RR (n + 1)).ev cx ρ (.IfExp t a b q) = res := bndI h1 h2
theorem x_namem {x m : Str} {xp p apos pos : Pos} {o a : PySem.Expr} {as : List PySem.Expr} {v : AV} {ρ' : R} (hf : freeze ρ (.Call (.Attribute o m apos) (a :: as) [] pos) = ρ1) (h1 : (RR n).ev ⟨sc, none⟩ ρ1 (.Call (.Attribute o m apos) (a :: as) [] pos) = some ⟨v, false⟩) (h2 : setV sc ρ1 x (.frz v) = some ρ') :
    ex1N n sc ρ (.Assign [.Name x xp] (.Call (.Attribute o m apos) (a :: as) [] pos) p) = some (.next, ρ') := x_name (by cases o <;> rfl) hf h1 h2
/-- a fresh container -/
theorem x_fresh {x : Str} {xp p : Pos} {value : PySem.Expr} {v : AV} {ρ' : R} (hfr : isFreshForm value = true) (hf : freeze ρ value = ρ1) (h1 : (RR n).ev ⟨sc, none⟩ ρ1 value = some ⟨v, false⟩) (h2 : setV sc ρ1 x (.own v) = some ρ') :
    ex1N n sc ρ (.Assign [.Name x xp] value p) = some (.next, ρ') := by
  have h5 : popForm value = none := by cases value <;> first | rfl | cases hfr
  have e : exName (RR n) sc ρ x value = some (.next, ρ') := by
    unfold exName
    rw [hf]
    exact bndI (clean_of h1) (tif hfr (mpdI h2))
  exact noneI h5 e
end
end Mine.P

end

/-! part Lck1 -/
section
set_option maxRecDepth 100000
set_option autoImplicit false
set_option linter.unusedVariables false
namespace Mine.P
open PySem

/-! _law_locked -/

/-- text of numbers: signs from 'a' on -/
noncomputable def cs (l : List Nat) : Str := ⟨⟨l.map (97 + ·)⟩⟩
/-- the text of a set of signs -/
noncomputable def S (f : Nat → Bool) : Str := cs ([0, 1, 2, 3].filter f)
/-- the dict of what is reached -/
noncomputable def rdP (P : Rel) : List (Str × AV) := [0, 1, 2, 3].map fun u => (cs [u], .str (S (P u)))
noncomputable def prs : AV := .list ([[0, 1], [0, 2], [0, 3], [1, 2], [1, 3], [2, 3]].map fun l => .str (cs l))

noncomputable def S4 (a b c d : Bool) : Str := S fun u => match u with | 0 => a | 1 => b | 2 => c | _ => d
theorem S_eq (f : Nat → Bool) : S f = S4 (f 0) (f 1) (f 2) (f 3) := by
  unfold S4 S
  simp only [List.filter]
theorem S_congr {f g : Nat → Bool} (h : ∀ v, v < 4 → f v = g v) : S f = S g := by
  rw [S_eq, S_eq g, h 0 (by decide), h 1 (by decide), h 2 (by decide), h 3 (by decide)]
theorem lt4 {p : Nat → Prop} (h0 : p 0) (h1 : p 1) (h2 : p 2) (h3 : p 3) : ∀ v, v < 4 → p v := fun v hv => by
  match v, hv with
  | 0, _ => exact h0
  | 1, _ => exact h1
  | 2, _ => exact h2
  | 3, _ => exact h3
theorem rdP_congr {P Q : Rel} (h : ∀ u, u < 4 → ∀ v, v < 4 → P u v = Q u v) : rdP P = rdP Q := by
  unfold rdP
  simp only [List.map]
  rw [S_congr (h 0 (by decide)), S_congr (h 1 (by decide)), S_congr (h 2 (by decide)), S_congr (h 3 (by decide))]

theorem in_S4 : ∀ (a b c d : Bool), Txt.contains (S4 a b c d) (cs [0]) = a ∧ Txt.contains (S4 a b c d) (cs [1]) = b ∧ Txt.contains (S4 a b c d) (cs [2]) = c ∧ Txt.contains (S4 a b c d) (cs [3]) = d := by decide +kernel
theorem in_S (f : Nat → Bool) (x : Nat) (hx : x < 4) : Txt.contains (S f) (cs [x]) = f x := by
  rw [S_eq]
  obtain ⟨h0, h1, h2, h3⟩ := in_S4 (f 0) (f 1) (f 2) (f 3)
  exact lt4 (p := fun x => Txt.contains (S4 (f 0) (f 1) (f 2) (f 3)) (cs [x]) = f x) h0 h1 h2 h3 x hx
theorem in_SS4 : ∀ (a b c d a' b' c' d' : Bool), Txt.contains (S4 a b c d ++ S4 a' b' c' d') (cs [0]) = (a || a') ∧ Txt.contains (S4 a b c d ++ S4 a' b' c' d') (cs [1]) = (b || b') ∧ Txt.contains (S4 a b c d ++ S4 a' b' c' d') (cs [2]) = (c || c') ∧ Txt.contains (S4 a b c d ++ S4 a' b' c' d') (cs [3]) = (d || d') := of_decide_eq_true (by kernel_rfl)
theorem in_SS (f g : Nat → Bool) (x : Nat) (hx : x < 4) : Txt.contains (S f ++ S g) (cs [x]) = (f x || g x) := by
  rw [S_eq, S_eq g]
  obtain ⟨h0, h1, h2, h3⟩ := in_SS4 (f 0) (f 1) (f 2) (f 3) (g 0) (g 1) (g 2) (g 3)
  exact lt4 (p := fun x => Txt.contains (S4 (f 0) (f 1) (f 2) (f 3) ++ S4 (g 0) (g 1) (g 2) (g 3)) (cs [x]) = (f x || g x)) h0 h1 h2 h3 x hx
theorem S_len (f : Nat → Bool) : (S f).length ≤ 4 := by
  rw [S_eq]
  have : ∀ (a b c d : Bool), (S4 a b c d).length ≤ 4 := by decide +kernel
  exact this _ _ _ _

theorem rd_look (P : Rel) (u : Nat) (hu : u < 4) : (rdP P).lookup (cs [u]) = some (.str (S (P u))) :=
  lt4 (p := fun u => (rdP P).lookup (cs [u]) = some (.str (S (P u)))) (by kernel_rfl) (by kernel_rfl) (by kernel_rfl) (by kernel_rfl) u hu
theorem rd_put (P : Rel) (u : Nat) (hu : u < 4) (f : Nat → Bool) : put (rdP P) (cs [u]) (.str (S f)) = rdP (fun i => if i = u then f else P i) :=
  lt4 (p := fun u => put (rdP P) (cs [u]) (.str (S f)) = rdP (fun i => if i = u then f else P i)) (by kernel_rfl) (by kernel_rfl) (by kernel_rfl) (by kernel_rfl) u hu

/-- the frame of _law_locked -/
noncomputable def lE (L : List Int) (D : List (Str × AV)) (ks : List AV) (ex : List (Str × Var)) : R := ⟨(nm "heap", .io (.list (L.map enc))) :: (nm "pairs", .frz prs) :: (nm "reach", .own (.dict D)) :: (nm "keys", .own (.list ks)) :: ex, []⟩
noncomputable def lX (w : AV) (x y : Str) : List (Str × Var) := [(nm "weight", .frz w), (nm "x", .frz (.str x)), (nm "y", .frz (.str y))]
noncomputable def lW (w : AV) (x y who : Str) : List (Str × Var) := [(nm "weight", .frz w), (nm "x", .frz (.str x)), (nm "y", .frz (.str y)), (nm "who", .frz (.str who))]

noncomputable def lkB : List Stmt := match (dF 12).body with | [_, _, _, .While _ b _ _, _, _] => b | _ => []
noncomputable def whoT : PySem.Expr := match lkB.drop 2 with | [.If _ [.For t _ _ _ _] _ _] => t | _ => .Constant .none 0 ⟨0, 0, 0, 0⟩
noncomputable def whoB : List Stmt := match lkB.drop 2 with | [.If _ [.For _ _ b _ _] _ _] => b | _ => []

noncomputable def abcd : List AV := [.str (cs [0]), .str (cs [1]), .str (cs [2]), .str (cs [3])]
noncomputable def gS (f : Nat → Bool) : AV → Option AV := fun v => match v with
  | .str s => if f (s.cps.toList.headD 0 - 97) then some v else none
  | _ => none
theorem joinS (f : Nat → Bool) : methA (nm "join") (.str (nm "")) [.list (abcd.filterMap (gS f))] = some (.str (S f)) := by
  rw [S_eq]
  have e : abcd.filterMap (gS f) = (abcd.filterMap (gS fun u => match u with | 0 => f 0 | 1 => f 1 | 2 => f 2 | _ => f 3)) := by
    dsimp only [abcd, List.filterMap_cons, List.filterMap_nil, gS, cs]
    rfl
  rw [e]
  cases f 0 <;> cases f 1 <;> cases f 2 <;> cases f 3 <;> kernel_rfl

theorem who_turn (n : Nat) (L : List Int) (D : List (Str × AV)) (ks : List AV) (w : AV) (x y who : Nat) (hx : x < 4) (A B : Nat → Bool) (h1 : D.lookup (cs [who]) = some (.str (S A))) (h2 : D.lookup (cs [y]) = some (.str (S B))) (hD : D.length ≤ 4096) :
    (RR (n + 20)).ex (dF 12).sc (lE L D ks (lW w (cs [x]) (cs [y]) (cs [who]))) whoB = some (.next, lE L (if A x then put D (cs [who]) (.str (S fun v => A v || B v)) else D) ks (lW w (cs [x]) (cs [y]) (cs [who]))) := by
  refine (ex_S (n := n + 19)).trans ?_
  have hc : cmpA .In (.str (cs [x])) (.str (S A)) = some (A x) := by
    rw [c_in, in_S A x hx]
  refine x_cons (ρ1 := lE L (if A x then put D (cs [who]) (.str (S fun v => A v || B v)) else D) ks (lW w (cs [x]) (cs [y]) (cs [who]))) (x_if (n := n + 19) (ρ1 := lE L D ks (lW w (cs [x]) (cs [y]) (cs [who]))) (c := A x) (by kernel_rfl) (t_cmp (n := n + 18) (A := ⟨.str (cs [x]), false⟩) (B := ⟨.str (S A), false⟩) rfl (by kernel_rfl) (e_sub (n := n + 17) (A := ⟨.dict D, true⟩) (B := ⟨.str (cs [who]), false⟩) rfl (by kernel_rfl) (by kernel_rfl) h1) hc) ?_) x_nil
  cases hb : A x with
  | false =>
    rw [if_neg (by decide), if_neg (by decide)]
    exact (ex_S (n := n + 18)).trans x_nil
  | true =>
    rw [if_pos rfl, if_pos rfl]
    refine (ex_S (n := n + 18)).trans ?_
    have hadd : binA .Add (.str (S A)) (.str (S B)) = some (.str (S A ++ S B)) := by
      have := S_len A
      have := S_len B
      rw [b_sadd, if_pos (by lia)]
    have hst : storeA (.dict D) (.str (cs [who])) (.str (S fun v => A v || B v)) = some (.dict (put D (cs [who]) (.str (S fun v => A v || B v)))) := st_dict hD
    refine x_cons (x_store (n := n + 18) (ρ1 := lE L D ks (lW w (cs [x]) (cs [y]) (cs [who]))) (I := ⟨.str (cs [who]), false⟩) (v := .str (S fun v => A v || B v)) (c := .dict D) (c' := .dict (put D (cs [who]) (.str (S fun v => A v || B v)))) (ρ2 := lE L (put D (cs [who]) (.str (S fun v => A v || B v))) ks (lW w (cs [x]) (cs [y]) (cs [who]))) (by kernel_rfl) (by kernel_rfl) ?_ (by kernel_rfl) (by kernel_rfl) hst (by kernel_rfl)) x_nil
    refine e_meth (n := n + 17) (A := ⟨.str (nm ""), false⟩) (vs := [.list (abcd.filterMap (gS fun v => A v || B v))]) rfl (by kernel_rfl) rfl ?_ (joinS _) rfl
    refine evs_cons rfl (e_lc (n := n + 16) (l := abcd) (g := gS fun v => A v || B v) (by kernel_rfl) (src := .str (cs [0, 1, 2, 3])) (by kernel_rfl) (by kernel_rfl) (by decide) rfl ?_) evs_nil
    have tst : ∀ v, v < 4 → stepG (RR (n + 16)) ⟨(dF 12).sc, some (match whoB with | [.If _ [.Assign _ (.Call _ [.ListComp _ _ cs _] _ _) _] _ _] => cs | _ => (dF 12).sc)⟩ (emitL (RR (n + 16)) ⟨(dF 12).sc, some (match whoB with | [.If _ [.Assign _ (.Call _ [.ListComp _ _ cs _] _ _) _] _ _] => cs | _ => (dF 12).sc)⟩ (match whoB with | [.If _ [.Assign _ (.Call _ [.ListComp e _ _ _] _ _) _] _ _] => e | _ => .Constant .none 0 ⟨0, 0, 0, 0⟩))
        (match whoB with | [.If _ [.Assign _ (.Call _ [.ListComp _ [⟨t, _, _, _⟩] _ _] _ _) _] _ _] => t | _ => .Constant .none 0 ⟨0, 0, 0, 0⟩) (match whoB with | [.If _ [.Assign _ (.Call _ [.ListComp _ [⟨_, _, ifs, _⟩] _ _] _ _) _] _ _] => ifs | _ => [])
        { lE L D ks (lW w (cs [x]) (cs [y]) (cs [who])) with comp := [] } (.str (cs [v])) = some (if (A v || B v) then some (.str (cs [v])) else none) := by
      intro v hv
      have hc2 : cmpA .In (.str (cs [v])) (.str (S A ++ S B)) = some (A v || B v) := by
        rw [c_in, in_SS A B v hv]
      have ht : (RR (n + 16)).ts ⟨(dF 12).sc, some (match whoB with | [.If _ [.Assign _ (.Call _ [.ListComp _ _ cs _] _ _) _] _ _] => cs | _ => (dF 12).sc)⟩ { lE L D ks (lW w (cs [x]) (cs [y]) (cs [who])) with comp := [(nm "one", .str (cs [v]))] } (match whoB with | [.If _ [.Assign _ (.Call _ [.ListComp _ [⟨_, _, [i], _⟩] _ _] _ _) _] _ _] => i | _ => .Constant .none 0 ⟨0, 0, 0, 0⟩) = some (A v || B v) :=
        t_cmp (n := n + 15) (A := ⟨.str (cs [v]), false⟩) (B := ⟨.str (S A ++ S B), false⟩) rfl (by kernel_rfl) (e_bin (n := n + 14) (A := ⟨.str (S A), false⟩) (B := ⟨.str (S B), false⟩) (e_sub (n := n + 13) (A := ⟨.dict D, true⟩) (B := ⟨.str (cs [who]), false⟩) rfl (by kernel_rfl) (by kernel_rfl) h1) (e_sub (n := n + 13) (A := ⟨.dict D, true⟩) (B := ⟨.str (cs [y]), false⟩) rfl (by kernel_rfl) (by kernel_rfl) h2) hadd) hc2
      cases hab : (A v || B v) with
      | true => rw [hab] at ht; exact step_yes (ρ1 := { lE L D ks (lW w (cs [x]) (cs [y]) (cs [who])) with comp := [(nm "one", .str (cs [v]))] }) (by kernel_rfl) (ts_one ht) (by kernel_rfl)
      | false => rw [hab] at ht; exact step_no (ρ1 := { lE L D ks (lW w (cs [x]) (cs [y]) (cs [who])) with comp := [(nm "one", .str (cs [v]))] }) (by kernel_rfl) (ts_one ht)
    intro v hv
    simp only [abcd, List.mem_cons, List.not_mem_nil, or_false] at hv
    rcases hv with rfl | rfl | rfl | rfl
    · exact tst 0 (by decide)
    · exact tst 1 (by decide)
    · exact tst 2 (by decide)
    · exact tst 3 (by decide)
end Mine.P

end

/-! part Lck2 -/
section
set_option maxRecDepth 100000
set_option autoImplicit false
set_option linter.unusedVariables false
namespace Mine.P
open PySem

theorem rdP_len (P : Rel) : (rdP P).length = 4 := rfl

/-- as far as the loop over who came -/
noncomputable def upd (P : Rel) (x y k : Nat) : Rel := fun u v => if u < k then (P u v || (P u x && P y v)) else P u v

theorem upd_step (P : Rel) (x y k : Nat) (hx : x < 4) (hy : y < 4) (hk : k < 4) (hyx : P y x = false) :
    (if upd P x y k k x then put (rdP (upd P x y k)) (cs [k]) (.str (S fun v => upd P x y k k v || upd P x y k y v)) else rdP (upd P x y k)) = rdP (upd P x y (k + 1)) := by
  have e1 : ∀ v, upd P x y k k v = P k v := fun v => by unfold upd; rw [if_neg (by lia)]
  have e2 : ∀ v, upd P x y k y v = P y v := fun v => by unfold upd; rw [hyx]; simp
  rw [e1 x]
  cases h : P k x with
  | true =>
    rw [if_pos rfl, rd_put _ k hk]
    refine rdP_congr fun u hu v hv => ?_
    by_cases e : u = k
    · subst e
      simp only [if_true]
      rw [e1, e2]
      unfold upd
      rw [if_pos (by lia), h]; simp
    · simp only [if_neg e]
      unfold upd
      by_cases e3 : u < k
      · rw [if_pos e3, if_pos (by lia)]
      · rw [if_neg e3, if_neg (by lia)]
  | false =>
    rw [if_neg (by decide)]
    refine rdP_congr fun u hu v hv => ?_
    by_cases e : u = k
    · subst e
      rw [e1]
      unfold upd
      rw [if_pos (by lia), h]; simp
    · unfold upd
      by_cases e3 : u < k
      · rw [if_pos e3, if_pos (by lia)]
      · rw [if_neg e3, if_neg (by lia)]

theorem who_step (n : Nat) (L : List Int) (P : Rel) (ks : List AV) (w : AV) (x y k : Nat) (hx : x < 4) (hy : y < 4) (hk : k < 4) (hyx : P y x = false) :
    (RR (n + 20)).ex (dF 12).sc (lE L (rdP (upd P x y k)) ks (lW w (cs [x]) (cs [y]) (cs [k]))) whoB = some (.next, lE L (rdP (upd P x y (k + 1))) ks (lW w (cs [x]) (cs [y]) (cs [k]))) := by
  have h := who_turn n L (rdP (upd P x y k)) ks w x y k hx (upd P x y k k) (upd P x y k y) (rd_look _ k hk) (rd_look _ y hy) (by rw [rdP_len]; decide)
  rw [upd_step P x y k hx hy hk hyx] at h
  exact h

theorem for_who (n : Nat) (L : List Int) (P : Rel) (ks : List AV) (w : AV) (x y : Nat) (hx : x < 4) (hy : y < 4) (hyx : P y x = false) (ex : List (Str × Var)) (hex : ex = lX w (cs [x]) (cs [y]) ∨ ex = lW w (cs [x]) (cs [y]) (cs [3])) :
    forA (RR (n + 20)) (dF 12).sc whoT whoB abcd (lE L (rdP P) ks ex) = some (.next, lE L (rdP (lock P (x, y))) ks (lW w (cs [x]) (cs [y]) (cs [3]))) := by
  have e0 : rdP P = rdP (upd P x y 0) := rdP_congr fun u hu v hv => by unfold upd; rw [if_neg (by lia)]
  have e4 : rdP (lock P (x, y)) = rdP (upd P x y 4) := rdP_congr fun u hu v hv => by
    unfold upd lock
    rw [if_pos hu]
    simp [hyx]
  rw [e0, e4]
  refine f_next (ρ1 := lE L (rdP (upd P x y 0)) ks (lW w (cs [x]) (cs [y]) (cs [0]))) ?_ (who_step n L P ks w x y 0 hx hy (by decide) hyx) ?_
  · rcases hex with rfl | rfl <;> kernel_rfl
  refine f_next (ρ1 := lE L (rdP (upd P x y 1)) ks (lW w (cs [x]) (cs [y]) (cs [1]))) (by kernel_rfl) (who_step n L P ks w x y 1 hx hy (by decide) hyx) ?_
  refine f_next (ρ1 := lE L (rdP (upd P x y 2)) ks (lW w (cs [x]) (cs [y]) (cs [2]))) (by kernel_rfl) (who_step n L P ks w x y 2 hx hy (by decide) hyx) ?_
  refine f_next (ρ1 := lE L (rdP (upd P x y 3)) ks (lW w (cs [x]) (cs [y]) (cs [3]))) (by kernel_rfl) (who_step n L P ks w x y 3 hx hy (by decide) hyx) f_nil

/-- the twelve pairs -/
noncomputable def p12 : List (Nat × Nat) := [(0, 1), (0, 2), (0, 3), (1, 0), (1, 2), (1, 3), (2, 0), (2, 1), (2, 3), (3, 0), (3, 1), (3, 2)]
noncomputable def pidx (x y : Nat) : Nat := match x, y with
  | 0, 1 => 0 | 0, 2 => 1 | 0, 3 => 2 | 1, 2 => 3 | 1, 3 => 4 | _, _ => 5
noncomputable def keyA (p : Nat × Nat) : AV := if p.1 < p.2 then .tup [.int (pidx p.1 p.2), .int (-1)] else .tup [.int (pidx p.2 p.1), .int 1]

theorem p12_lt {p : Nat × Nat} (h : p ∈ p12) : p.1 < 4 ∧ p.2 < 4 ∧ p.1 ≠ p.2 := by
  have : ∀ p ∈ p12, p.1 < 4 ∧ p.2 < 4 ∧ p.1 ≠ p.2 := by decide
  exact this p h

noncomputable def lkT2 : PySem.Expr := match lkB with | [_, .If t _ _ _, _] => t | _ => .Constant .none 0 ⟨0, 0, 0, 0⟩
noncomputable def lkE2 (b : Bool) : PySem.Expr := match lkB with | [_, .If _ [.Expr (.Call _ [e] _ _) _] [.Expr (.Call _ [e'] _ _) _] _, _] => if b then e else e' | _ => .Constant .none 0 ⟨0, 0, 0, 0⟩

theorem key_test (n : Nat) (L : List Int) (D : List (Str × AV)) (ks : List AV) (w : AV) (p : Nat × Nat) (hp : p ∈ p12) (ex : List (Str × Var)) (hex : ex = lX w (cs [p.1]) (cs [p.2]) ∨ ex = lW w (cs [p.1]) (cs [p.2]) (cs [3])) :
    (RR (n + 10)).ts ⟨(dF 12).sc, none⟩ (lE L D ks ex) lkT2 = some (decide (p.1 < p.2)) := by
  have a : p12.map (fun p => (RR (n + 10)).ts ⟨(dF 12).sc, none⟩ (lE L D ks (lX w (cs [p.1]) (cs [p.2]))) lkT2) = p12.map fun p => some (decide (p.1 < p.2)) := by kernel_rfl
  have b : p12.map (fun p => (RR (n + 10)).ts ⟨(dF 12).sc, none⟩ (lE L D ks (lW w (cs [p.1]) (cs [p.2]) (cs [3]))) lkT2) = p12.map fun p => some (decide (p.1 < p.2)) := by kernel_rfl
  rcases hex with rfl | rfl
  · exact List.map_inj_left.mp a p hp
  · exact List.map_inj_left.mp b p hp
theorem key_ev (n : Nat) (L : List Int) (D : List (Str × AV)) (ks : List AV) (w : AV) (p : Nat × Nat) (hp : p ∈ p12) (ex : List (Str × Var)) (hex : ex = lX w (cs [p.1]) (cs [p.2]) ∨ ex = lW w (cs [p.1]) (cs [p.2]) (cs [3])) :
    (RR (n + 14)).ev ⟨(dF 12).sc, none⟩ (lE L D ks ex) (lkE2 (decide (p.1 < p.2))) = some ⟨keyA p, false⟩ := by
  have a : p12.map (fun p => (RR (n + 14)).ev ⟨(dF 12).sc, none⟩ (lE L D ks (lX w (cs [p.1]) (cs [p.2]))) (lkE2 (decide (p.1 < p.2)))) = p12.map fun p => some ⟨keyA p, false⟩ := by kernel_rfl
  have b : p12.map (fun p => (RR (n + 14)).ev ⟨(dF 12).sc, none⟩ (lE L D ks (lW w (cs [p.1]) (cs [p.2]) (cs [3]))) (lkE2 (decide (p.1 < p.2)))) = p12.map fun p => some ⟨keyA p, false⟩ := by kernel_rfl
  rcases hex with rfl | rfl
  · exact List.map_inj_left.mp a p hp
  · exact List.map_inj_left.mp b p hp

theorem enc_at (k : Int) (x y : Nat) (hx : x < 4) (hy : y < 4) (h : k % 16 = 4 * x + y) : enc k = .tup [.int (k / 16), .str (cs [x]), .str (cs [y])] := by
  have e1 : k % 16 / 4 = x := by lia
  have e2 : k % 4 = y := by lia
  unfold enc
  rw [e1, e2]
  rfl

theorem lk_turn (n : Nat) (L : List Int) (h0 : 0 < L.length) (hl : L.length < 64) (P : Rel) (ks : List AV) (hks : ks.length ≤ 4096) (ex0 : List (Str × Var)) (p : Nat × Nat) (hp : p ∈ p12) (hpop : (popS L).1 % 16 = 4 * p.1 + p.2)
    (hex : (ex0 = [] ∧ P p.2 p.1 = false) ∨ ∃ w x y, ex0 = lW w x y (cs [3])) :
    ∃ w x y, (RR (n + 24)).ex (dF 12).sc (lE L (rdP P) ks ex0) lkB = some (.next, lE (popS L).2 (rdP (lock P p)) (ks ++ [keyA p]) (lW w x y (cs [3]))) := by
  obtain ⟨hx, hy, hxy⟩ := p12_lt hp
  refine ⟨.int ((popS L).1 / 16), cs [p.1], cs [p.2], ?_⟩
  have hh := heappop_fn (n + 5) L h0 hl
  rw [enc_at _ p.1 p.2 hx hy hpop] at hh
  generalize AV.int ((popS L).1 / 16) = w at *
  generalize (popS L).2 = L2 at *
  refine (ex_S (n := n + 23)).trans ?_
  have s1 : ∃ ex, (ex = lX w (cs [p.1]) (cs [p.2]) ∧ P p.2 p.1 = false ∨ ex = lW w (cs [p.1]) (cs [p.2]) (cs [3])) ∧ ex1N (n + 23) (dF 12).sc (lE L (rdP P) ks ex0) (lkB.headD (.Break ⟨0, 0, 0, 0⟩)) = some (.next, lE L2 (rdP P) ks ex) := by
    rcases hex with ⟨rfl, hP⟩ | ⟨w', x', y', rfl⟩
    · exact ⟨_, .inl ⟨rfl, hP⟩, x_unio (n := n + 23) (ρ1 := lE L2 (rdP P) ks []) (c := .list (L.map enc)) (vs := []) (by kernel_rfl) (by kernel_rfl) (by kernel_rfl) (by kernel_rfl) evs_nil hh (by kernel_rfl) (by kernel_rfl)⟩
    · exact ⟨_, .inr rfl, x_unio (n := n + 23) (ρ1 := lE L2 (rdP P) ks (lW w' x' y' (cs [3]))) (c := .list (L.map enc)) (vs := []) (by kernel_rfl) (by kernel_rfl) (by kernel_rfl) (by kernel_rfl) evs_nil hh (by kernel_rfl) (by kernel_rfl)⟩
  obtain ⟨ex, hex, s1⟩ := s1
  have hex' : ex = lX w (cs [p.1]) (cs [p.2]) ∨ ex = lW w (cs [p.1]) (cs [p.2]) (cs [3]) := hex.imp And.left id
  refine x_cons s1 ?_
  have kt := key_test (n + 13) L2 (rdP P) ks w p hp ex hex'
  have ke := key_ev (n + 8) L2 (rdP P) ks w p hp ex hex'
  refine x_cons (ρ1 := lE L2 (rdP P) (ks ++ [keyA p]) ex) (x_if (n := n + 23) (ρ1 := lE L2 (rdP P) ks ex) (by rcases hex' with rfl | rfl <;> kernel_rfl) kt ?_) ?_
  · by_cases hlt : p.1 < p.2
    · rw [if_pos (by simpa using hlt)]
      rw [decide_eq_true hlt] at ke
      refine (ex_S (n := n + 22)).trans (x_cons (x_append (n := n + 22) (ρ1 := lE L2 (rdP P) ks ex) (l := ks) (by kernel_rfl) ?_ (by kernel_rfl) ke (by kernel_rfl) hks (by kernel_rfl)) x_nil)
      rcases hex' with rfl | rfl <;> kernel_rfl
    · rw [if_neg (by simpa using hlt)]
      rw [decide_eq_false hlt] at ke
      refine (ex_S (n := n + 22)).trans (x_cons (x_append (n := n + 22) (ρ1 := lE L2 (rdP P) ks ex) (l := ks) (by kernel_rfl) ?_ (by kernel_rfl) ke (by kernel_rfl) hks (by kernel_rfl)) x_nil)
      rcases hex' with rfl | rfl <;> kernel_rfl
  · generalize ks ++ [keyA p] = ks'
    have hc : cmpA .NotIn (.str (cs [p.1])) (.str (S (P p.2))) = some (!P p.2 p.1) := by
      rw [c_nin, in_S _ _ hx]
    have hlk := rd_look P p.2 hy
    refine x_cons (ρ1 := lE L2 (rdP (lock P p)) ks' (lW w (cs [p.1]) (cs [p.2]) (cs [3]))) (x_if (n := n + 23) (ρ1 := lE L2 (rdP P) ks' ex) (c := !P p.2 p.1) (by rcases hex' with rfl | rfl <;> kernel_rfl)
      (t_cmp (n := n + 22) (A := ⟨.str (cs [p.1]), false⟩) (B := ⟨.str (S (P p.2)), false⟩) rfl (by rcases hex' with rfl | rfl <;> kernel_rfl) (e_sub (n := n + 21) (A := ⟨.dict (rdP P), true⟩) (B := ⟨.str (cs [p.2]), false⟩) rfl (by kernel_rfl) (by rcases hex' with rfl | rfl <;> kernel_rfl) hlk) hc) ?_) x_nil
    cases hP : P p.2 p.1 with
    | true =>
      rw [if_neg (by decide)]
      refine (ex_S (n := n + 22)).trans ?_
      rcases hex with ⟨rfl, hP'⟩ | rfl
      · rw [hP'] at hP; cases hP
      · have : lock P p = P := by unfold lock; rw [if_pos hP]
        rw [this]
        exact x_nil
    | false =>
      rw [if_pos (by decide)]
      refine (ex_S (n := n + 22)).trans (x_cons (x_for (n := n + 22) (ρ1 := lE L2 (rdP P) ks' ex) (src := .str (cs [0, 1, 2, 3])) (l := abcd) (by kernel_rfl) (by kernel_rfl) (by rcases hex' with rfl | rfl <;> kernel_rfl) (by kernel_rfl) (by kernel_rfl) (by decide)
        (for_who (n + 2) L2 P ks' w p.1 p.2 hx hy hP ex hex')) x_nil)
end Mine.P

end

/-! part Lck3 -/
section
set_option maxRecDepth 100000
set_option autoImplicit false
set_option linter.unusedVariables false
namespace Mine.P
open PySem

/-- what comes, in its order -/
noncomputable def popSeq : Nat → List Int → List Int
  | 0, _ => []
  | f + 1, L => if L.isEmpty then [] else (popS L).1 :: popSeq f (popS L).2
noncomputable def codeOf (k : Int) : Nat × Nat := ((k % 16 / 4).toNat, (k % 4).toNat)

noncomputable def lkT : PySem.Expr := match (dF 12).body with | [_, _, _, .While t _ _ _, _, _] => t | _ => .Constant .none 0 ⟨0, 0, 0, 0⟩

theorem code_mod {k : Int} {p : Nat × Nat} (h : p.1 < 4) (h2 : p.2 < 4) (e : k % 16 = 4 * p.1 + p.2) : codeOf k = p := by
  unfold codeOf
  apply Prod.ext
  · show (k % 16 / 4).toNat = p.1
    lia
  · show (k % 4).toNat = p.2
    lia
/-- a key of one of the twelve pairs -/
noncomputable def Good (k : Int) : Prop := ∃ p ∈ p12, k % 16 = 4 * p.1 + p.2

theorem lk_while (n : Nat) : ∀ (f : Nat) (L : List Int) (k : Nat) (P : Rel) (ks : List AV) (ex0 : List (Str × Var)), L.length ≤ f → f < k → f < 64 → HeapFrom 0 L → (∀ z ∈ L, Good z) → ks.length + f ≤ 4096 →
    ((ex0 = [] ∧ P = P0) ∨ ∃ w x y, ex0 = lW w x y (cs [3])) →
    ∃ ex1, whileA (RR (n + 24)) (dF 12).sc lkT lkB k (lE L (rdP P) ks ex0) = some (.next, lE [] (rdP (lockAll P ((popSeq f L).map codeOf))) (ks ++ ((popSeq f L).map codeOf).map keyA) ex1) ∧ (ex1 = ex0 ∧ L = [] ∨ ∃ w x y, ex1 = lW w x y (cs [3])) := by
  have stop : ∀ (k : Nat) (P : Rel) (ks : List AV) (ex0 : List (Str × Var)), ((ex0 = [] ∧ P = P0) ∨ ∃ w x y, ex0 = lW w x y (cs [3])) → whileA (RR (n + 24)) (dF 12).sc lkT lkB (k + 1) (lE [] (rdP P) ks ex0) = some (.next, lE [] (rdP P) ks ex0) := by
    intro k P ks ex0 hex
    exact w_stop (by kernel_rfl)
  intro f
  induction f with
  | zero =>
    intro L k P ks ex0 hL hk hf hH hg hks hex
    obtain ⟨k, rfl⟩ : ∃ j, k = j + 1 := ⟨k - 1, by lia⟩
    obtain rfl : L = [] := List.eq_nil_of_length_eq_zero (by lia)
    refine ⟨ex0, ?_, .inl ⟨rfl, rfl⟩⟩
    rw [stop k P ks ex0 hex]
    simp [popSeq, lockAll]
  | succ f ih =>
    intro L k P ks ex0 hL hk hf hH hg hks hex
    obtain ⟨k, rfl⟩ : ∃ j, k = j + 1 := ⟨k - 1, by lia⟩
    cases L with
    | nil =>
      refine ⟨ex0, ?_, .inl ⟨rfl, rfl⟩⟩
      rw [stop k P ks ex0 hex]
      simp [popSeq, lockAll]
    | cons a L =>
      have ht : (RR (n + 24)).ts ⟨(dF 12).sc, none⟩ (lE (a :: L) (rdP P) ks ex0) lkT = some true := by kernel_rfl
      obtain ⟨r1, r2, r3⟩ := popS_ok (L := a :: L) (by simp) hH
      have hz : Good (popS (a :: L)).1 := hg _ (r2.subset List.mem_cons_self)
      obtain ⟨p, hp, hpm⟩ := hz
      obtain ⟨hx, hy, hxy⟩ := p12_lt hp
      have hlen := r2.length_eq
      simp only [List.length_cons] at hlen hL hks
      obtain ⟨w, x, y, hb⟩ := lk_turn n (a :: L) (by simp) (by simp; lia) P ks (by lia) ex0 p hp hpm (by
        rcases hex with ⟨h1, rfl⟩ | h
        · exact .inl ⟨h1, by simp [P0]; lia⟩
        · exact .inr h)
      have hc : codeOf (popS (a :: L)).1 = p := code_mod hx hy hpm
      obtain ⟨ex1, i1, i2⟩ := ih (popS (a :: L)).2 k (lock P p) (ks ++ [keyA p]) _ (by lia) (by lia) (by lia) r1 (fun z hz => hg z (r2.subset (List.mem_cons_of_mem _ hz))) (by simp; lia) (.inr ⟨w, x, y, rfl⟩)
      refine ⟨ex1, ?_, ?_⟩
      · rw [w_next ht hb i1]
        rw [show popSeq (f + 1) (a :: L) = (popS (a :: L)).1 :: popSeq f (popS (a :: L)).2 from rfl, List.map_cons, hc, List.map_cons]
        simp [lockAll]
      · rcases i2 with ⟨h, _⟩ | h
        · exact .inr ⟨w, x, y, h⟩
        · exact .inr h

/-! what is locked in the end -/

noncomputable def posn (l : List Nat) (u : Nat) : Nat := if u < 4 then l.idxOf u else u
noncomputable def relS (l : List Nat) : Rel := fun u v => decide (posn l u ≤ posn l v)
noncomputable def perms : List (List Nat) := [[0, 1, 2, 3], [0, 1, 3, 2], [0, 2, 1, 3], [0, 2, 3, 1], [0, 3, 1, 2], [0, 3, 2, 1], [1, 0, 2, 3], [1, 0, 3, 2], [1, 2, 0, 3], [1, 2, 3, 0], [1, 3, 0, 2], [1, 3, 2, 0], [2, 0, 1, 3], [2, 0, 3, 1], [2, 1, 0, 3], [2, 1, 3, 0], [2, 3, 0, 1], [2, 3, 1, 0], [3, 0, 1, 2], [3, 0, 2, 1], [3, 1, 0, 2], [3, 1, 2, 0], [3, 2, 0, 1], [3, 2, 1, 0]]

noncomputable def relB (a b c d e f : Bool) : Rel := fun u v => match u, v with
  | 0, 1 => a | 0, 2 => b | 0, 3 => c | 1, 2 => d | 1, 3 => e | 2, 3 => f
  | 1, 0 => !a | 2, 0 => !b | 3, 0 => !c | 2, 1 => !d | 3, 1 => !e | 3, 2 => !f
  | _, _ => true
noncomputable def r4 : List Nat := [0, 1, 2, 3]
theorem perm_chk : ∀ a b c d e f : Bool, (r4.all fun u => r4.all fun v => r4.all fun w => !(relB a b c d e f u v && relB a b c d e f v w) || relB a b c d e f u w) = true → (perms.any fun l => r4.all fun u => r4.all fun v => relB a b c d e f u v == relS l u v) = true := by decide +kernel

theorem mem_r4 {u : Nat} : u ∈ r4 ↔ u < 4 := by
  simp [r4]; lia

theorem perm_of {P : Rel} (h : Ord P) (ht : ∀ p ∈ p12, P p.1 p.2 = true ∨ P p.2 p.1 = true) : ∃ l ∈ perms, ∀ u, u < 4 → ∀ v, v < 4 → P u v = relS l u v := by
  have e : ∀ u v, (u, v) ∈ p12 → P v u = !P u v := by
    intro u v hm
    have hne := (p12_lt hm).2.2
    have := ht _ hm
    cases h1 : P u v <;> cases h2 : P v u
    · simp [h1, h2] at this
    · rfl
    · rfl
    · exact absurd (h.anti _ _ h1 h2) hne
  have hB : ∀ u, u < 4 → ∀ v, v < 4 → P u v = relB (P 0 1) (P 0 2) (P 0 3) (P 1 2) (P 1 3) (P 2 3) u v := by
    refine lt4 ?_ ?_ ?_ ?_ <;> refine lt4 ?_ ?_ ?_ ?_ <;> first | exact h.refl _ | rfl | exact e _ _ (by decide)
  have hc := perm_chk (P 0 1) (P 0 2) (P 0 3) (P 1 2) (P 1 3) (P 2 3) (by
    simp only [List.all_eq_true, mem_r4]
    intro u hu v hv w hw
    rw [← hB u hu v hv, ← hB v hv w hw, ← hB u hu w hw]
    cases h1 : P u v <;> cases h2 : P v w <;> simp
    exact h.trans _ _ _ h1 h2)
  simp only [List.any_eq_true, List.all_eq_true, mem_r4, beq_iff_eq] at hc
  obtain ⟨l, hl, hc⟩ := hc
  exact ⟨l, hl, fun u hu v hv => (hB u hu v hv).trans (hc u hu v hv)⟩

theorem posn_inj {l : List Nat} (hl : l ∈ perms) : ∀ u v, posn l u = posn l v → u = v := by
  have h1 : ∀ l ∈ perms, (∀ u, u < 4 → ∀ v, v < 4 → posn l u = posn l v → u = v) ∧ (∀ u, u < 4 → posn l u < 4) := by decide +kernel
  obtain ⟨a, b⟩ := h1 l hl
  intro u v e
  by_cases hu : u < 4 <;> by_cases hv : v < 4
  · exact a u hu v hv e
  · have := b u hu
    have e2 : posn l v = v := by unfold posn; rw [if_neg hv]
    lia
  · have := b v hv
    have e2 : posn l u = u := by unfold posn; rw [if_neg hu]
    lia
  · have e1 : posn l u = u := by unfold posn; rw [if_neg hu]
    have e2 : posn l v = v := by unfold posn; rw [if_neg hv]
    lia
theorem relS_ord {l : List Nat} (hl : l ∈ perms) : Ord (relS l) :=
  ⟨fun u => by simp [relS], fun u v w h1 h2 => by simp [relS] at *; lia, fun u v h1 h2 => posn_inj hl u v (by simp [relS] at *; lia)⟩
/-- in the end: all that were in the heap came, in their order -/
theorem popSeq_ok : ∀ (f : Nat) (L : List Int), L.length ≤ f → HeapFrom 0 L → (popSeq f L).Perm L ∧ (popSeq f L).Pairwise (· ≤ ·)
  | 0, L, hL, hH => by
    obtain rfl : L = [] := List.eq_nil_of_length_eq_zero (by lia)
    exact ⟨.refl _, .nil⟩
  | f + 1, [], hL, hH => ⟨.refl _, .nil⟩
  | f + 1, a :: L, hL, hH => by
    obtain ⟨r1, r2, r3⟩ := popS_ok (L := a :: L) (by simp) hH
    have hlen := r2.length_eq
    simp only [List.length_cons] at hlen hL
    obtain ⟨i1, i2⟩ := popSeq_ok f (popS (a :: L)).2 (by lia) r1
    rw [show popSeq (f + 1) (a :: L) = (popS (a :: L)).1 :: popSeq f (popS (a :: L)).2 from rfl]
    exact ⟨(i1.cons _).trans r2, List.pairwise_cons.mpr ⟨fun z hz => r3 z (i1.subset hz), i2⟩⟩

end Mine.P

end

/-! part Lck4 -/
section
set_option maxRecDepth 100000
set_option autoImplicit false
set_option linter.unusedVariables false
namespace Mine.P
open PySem

/-- the order in which all stand, as the relation says it -/
noncomputable def gO (P : Rel) : AV → AV → Option AV := fun v u => match v, u with
  | .int s, .str x => if decide (((S (P (x.cps.toList.headD 0 - 97))).length : Int) = s) = true then some u else none
  | _, _ => none
noncomputable def sizes : List AV := [.int 4, .int 3, .int 2, .int 1]
noncomputable def ordL : PySem.Expr := match (dF 12).body.drop 4 with | [.Assign _ (.Call _ [e] _ _) _, _] => e | _ => .Constant .none 0 ⟨0, 0, 0, 0⟩
noncomputable def ordC : Scope := match ordL with | .ListComp _ _ cs _ => cs | _ => (dF 12).sc
noncomputable def ordT : PySem.Expr := match ordL with | .ListComp _ [_, ⟨_, _, [i], _⟩] _ _ => i | _ => .Constant .none 0 ⟨0, 0, 0, 0⟩
noncomputable def ordE : PySem.Expr := match ordL with | .ListComp e _ _ _ => e | _ => .Constant .none 0 ⟨0, 0, 0, 0⟩
noncomputable def ordG : PySem.Expr := match ordL with | .ListComp _ [_, ⟨t, _, _, _⟩] _ _ => t | _ => .Constant .none 0 ⟨0, 0, 0, 0⟩

theorem order_step (n : Nat) (P : Rel) (ks : List AV) (w : AV) (x y : Str) (s : Int) (u : Nat) (hu : u < 4) :
    stepG (RR (n + 20)) ⟨(dF 12).sc, some ordC⟩ (emitL (RR (n + 20)) ⟨(dF 12).sc, some ordC⟩ ordE) ordG [ordT] ⟨(lE [] (rdP P) ks (lW w x y (cs [3]))).vars, [(nm "size", .int s)]⟩ (.str (cs [u])) = some (gO P (.int s) (.str (cs [u]))) := by
  have hlk := rd_look P u hu
  have hu' : ((cs [u]).cps.toList.headD 0 - 97) = u := by simp [cs]
  have hg : gO P (.int s) (.str (cs [u])) = if decide (((S (P u)).length : Int) = s) = true then some (.str (cs [u])) else none := by
    unfold gO
    dsimp only
    rw [hu']
  have hlen := S_len (P u)
  have ht : (RR (n + 20)).ts ⟨(dF 12).sc, some ordC⟩ ⟨(lE [] (rdP P) ks (lW w x y (cs [3]))).vars, [(nm "who", .str (cs [u])), (nm "size", .int s)]⟩ ordT = some (decide (((S (P u)).length : Int) = s)) :=
    t_cmp (n := n + 19) (A := ⟨.int (S (P u)).length, false⟩) (B := ⟨.int s, false⟩) rfl (e_len2 (n := n + 18) (v := .str (S (P u))) (o := false) (by kernel_rfl) rfl (e_sub (n := n + 17) (A := ⟨.dict (rdP P), true⟩) (B := ⟨.str (cs [u]), false⟩) rfl (by kernel_rfl) (by kernel_rfl) hlk) rfl (by lia)) (by kernel_rfl) rfl
  rw [hg]
  cases hb : decide (((S (P u)).length : Int) = s) with
  | true => rw [hb] at ht; rw [if_pos rfl]; exact step_yes (ρ1 := ⟨(lE [] (rdP P) ks (lW w x y (cs [3]))).vars, [(nm "who", .str (cs [u])), (nm "size", .int s)]⟩) (by kernel_rfl) (ts_one ht) (by kernel_rfl)
  | false => rw [hb] at ht; rw [if_neg (by decide)]; exact step_no (ρ1 := ⟨(lE [] (rdP P) ks (lW w x y (cs [3]))).vars, [(nm "who", .str (cs [u])), (nm "size", .int s)]⟩) (by kernel_rfl) (ts_one ht)

theorem order_ev (n : Nat) (P : Rel) (ks : List AV) (w : AV) (x y : Str) : (RR (n + 21)).ev ⟨(dF 12).sc, none⟩ (lE [] (rdP P) ks (lW w x y (cs [3]))) ordL = some ⟨.list (sizes.flatMap fun v => abcd.filterMap (gO P v)), false⟩ := by
  refine e_lc2 (n := n + 20) (l := sizes) (l2 := abcd) (src := .tup sizes) (by kernel_rfl) (by kernel_rfl) (by kernel_rfl) (by decide) (by decide) (by decide) rfl fun v hv => ?_
  obtain ⟨s, rfl⟩ : ∃ s, v = .int s := by
    simp only [sizes, List.mem_cons, List.not_mem_nil, or_false] at hv
    rcases hv with rfl | rfl | rfl | rfl <;> exact ⟨_, rfl⟩
  refine ⟨⟨(lE [] (rdP P) ks (lW w x y (cs [3]))).vars, [(nm "size", .int s)]⟩, .str (cs [0, 1, 2, 3]), by kernel_rfl, by kernel_rfl, by kernel_rfl, rfl, fun u hu => ?_⟩
  simp only [abcd, List.mem_cons, List.not_mem_nil, or_false] at hu
  rcases hu with rfl | rfl | rfl | rfl
  · exact order_step n P ks w x y s 0 (by decide)
  · exact order_step n P ks w x y s 1 (by decide)
  · exact order_step n P ks w x y s 2 (by decide)
  · exact order_step n P ks w x y s 3 (by decide)

theorem order_join (l : List Nat) (hl : l ∈ perms) : methA (nm "join") (.str (nm "")) [.list (sizes.flatMap fun v => abcd.filterMap (gO (relS l) v))] = some (.str (cs l)) := by
  have h : perms.map (fun l => methA (nm "join") (.str (nm "")) [.list (sizes.flatMap fun v => abcd.filterMap (gO (relS l) v))]) = perms.map fun l => some (.str (cs l)) := by kernel_rfl
  exact List.map_inj_left.mp h l hl

noncomputable def lEnd (ks : List AV) (w : AV) (x y : Str) (l : List Nat) : R := ⟨(nm "heap", .io (.list [])) :: (nm "pairs", .frz prs) :: (nm "reach", .own (.dict (rdP (relS l)))) :: (nm "keys", .frz (.list ks)) :: (lW w x y (cs [3]) ++ [(nm "order", .frz (.str (cs l)))]), []⟩
theorem locked_fn (n : Nat) (L : List Int) (hL : L.length < 64) (h0 : 0 < L.length) (hH : HeapFrom 0 L) (hg : ∀ z ∈ L, Good z) (hall : ∀ p ∈ p12, p ∈ (popSeq L.length L).map codeOf) :
    ∃ l ∈ perms, (∀ u, u < 4 → ∀ v, v < 4 → lockAll P0 ((popSeq L.length L).map codeOf) u v = relS l u v) ∧
      (RR (n + 28)).call (nm "_law_locked") [.own (.list (L.map enc))] = some (.tup [.str (cs l), .list (((popSeq L.length L).map codeOf).map keyA)], some (.list [])) := by
  obtain ⟨ex1, h1, h2⟩ := lk_while (n + 2) L.length L 64 P0 [] [] (Nat.le_refl _) hL hL hH hg (by simp; lia) (.inl ⟨rfl, rfl⟩)
  generalize hps : (popSeq L.length L).map codeOf = ps at *
  obtain ⟨l, hl, hP⟩ := perm_of (lockAll_ord ps P0 P0_ord) (fun p hp => lockAll_total ps P0 P0_ord p (hall p hp))
  refine ⟨l, hl, hP, ?_⟩
  rw [rdP_congr hP, List.nil_append] at h1
  rcases h2 with ⟨_, rfl⟩ | ⟨w, x, y, rfl⟩
  · simp at h0
  have ho : exsN (n + 26) (dF 12).sc (lE [] (rdP (relS l)) (ps.map keyA) (lW w x y (cs [3]))) ((dF 12).body.drop 4) = some (.ret (.tup [.str (cs l), .list (ps.map keyA)]), lEnd (ps.map keyA) w x y l) := by
    generalize ps.map keyA = ks
    have hj := order_join l hl
    have he := order_ev (n + 4) (relS l) ks w x y
    generalize hlist : (sizes.flatMap fun v => abcd.filterMap (gO (relS l) v)) = ll at *
    generalize hcs : cs l = order at *
    refine x_cons (ρ1 := ⟨(lE [] (rdP (relS l)) ks (lW w x y (cs [3]))).vars ++ [(nm "order", .frz (.str order))], []⟩) (x_namem (n := n + 26) (v := .str order) (ρ1 := lE [] (rdP (relS l)) ks (lW w x y (cs [3]))) (by kernel_rfl) (e_meth (n := n + 25) (A := ⟨.str (nm ""), false⟩) (vs := [.list ll]) (by kernel_rfl) (by kernel_rfl) rfl (evs_cons rfl he evs_nil) hj rfl) (by kernel_rfl)) ?_
    refine x_out (by intro h; cases h) ?_
    subst hcs
    kernel_rfl
  generalize ps.map keyA = ks at *
  refine call_io (n := n + 27) (d := dF 12) (p := nm "heap") (ps := []) (ρ' := lEnd ks w x y l) (fl := .ret (.tup [.str (cs l), .list ks])) (by kernel_rfl) (by kernel_rfl) rfl ?_ rfl (by kernel_rfl)
  refine (ex_S (n := n + 26)).trans ?_
  have start : exsN (n + 26) (dF 12).sc ⟨[(nm "heap", .io (.list (L.map enc)))], []⟩ ((dF 12).body.take 3) = some (.next, lE L (rdP P0) [] []) := by kernel_rfl
  have app : ∀ (a b : List Stmt) (ρ ρ1 : R) (res : Option (Fl × R)), exsN (n + 26) (dF 12).sc ρ a = some (.next, ρ1) → exsN (n + 26) (dF 12).sc ρ1 b = res → exsN (n + 26) (dF 12).sc ρ (a ++ b) = res := by
    intro a
    induction a with
    | nil => intro b ρ ρ1 res h1 h2; cases h1; exact h2
    | cons s a ih =>
      intro b ρ ρ1 res h1 h2
      refine bnd (o := ex1N (n + 26) (dF 12).sc ρ s) h1 fun q hs h1 => ?_
      obtain ⟨f, ρ'⟩ := q
      induction f using Fl.casesOn with
      | next => exact x_cons hs (ih b ρ' ρ1 res h1 h2)
      | _ => cases h1
  exact app _ _ _ _ _ start (x_cons (x_while h1) ho)
end Mine.P

end

/-! part Cmp1 -/
section
set_option maxRecDepth 100000
set_option autoImplicit false
set_option linter.unusedVariables false
namespace Mine.P
open PySem

/-! _law_row and compare -/

/-- List.map by another name: the kernel then compares item by item, never the two functions at a free item -/
noncomputable def mapG {α β : Type} (g : α → β) : List α → List β
  | [] => []
  | a :: l => g a :: mapG g l
theorem of_map {α β : Type} {f g : α → β} {l : List α} (h : l.map f = mapG g l) : ∀ a ∈ l, f a = g a := by
  have e : mapG g l = l.map g := by
    clear h
    induction l with
    | nil => rfl
    | cons a l ih => simp [mapG, ih]
  rw [e] at h
  exact List.map_inj_left.mp h

noncomputable def p6 : List (Nat × Nat) := [(0, 1), (0, 2), (0, 3), (1, 2), (1, 3), (2, 3)]
noncomputable def bit (b : Bool) : Int := if b then 1 else 0
noncomputable def rowV (f : Rel) : AV := .list (p6.map fun p => .int (bit (f p.1 p.2)))

theorem row_fn (n : Nat) (l : List Nat) (hl : l ∈ perms) : (RR (n + 20)).call (nm "_law_row") [.frz (.str (cs l))] = some (rowV (relS l), none) :=
  of_map (f := fun l => (RR (n + 20)).call (nm "_law_row") [.frz (.str (cs l))]) (g := fun l => some (rowV (relS l), none)) (l := perms) (by kernel_rfl) l hl

noncomputable def ki (p : Nat × Nat) : Nat := if p.1 < p.2 then pidx p.1 p.2 else pidx p.2 p.1
noncomputable def kd (p : Nat × Nat) : Int := if p.1 < p.2 then -1 else 1
noncomputable def kb (f : Rel) (p : Nat × Nat) : Bool := if p.1 < p.2 then f p.1 p.2 else f p.2 p.1
theorem key_eq (p : Nat × Nat) : keyA p = .tup [.int (ki p), .int (kd p)] := by
  unfold keyA ki kd
  split <;> rfl
theorem row_at (f : Rel) (p : Nat × Nat) (hp : p ∈ p12) : indexA (rowV f) (.int (ki p)) = some (.int (bit (kb f p))) := by
  exact of_map (f := fun p => indexA (rowV f) (.int (ki p))) (g := fun p => some (.int (bit (kb f p)))) (l := p12) (by kernel_rfl) p hp

noncomputable def cE (K A B : AV) (ex : List (Str × Var)) : R := ⟨(nm "self", .frz (.inst K)) :: (nm "left", .frz A) :: (nm "right", .frz B) :: ex, []⟩
noncomputable def cX (i d l r : Int) : List (Str × Var) := [(nm "index", .frz (.int i)), (nm "direction", .frz (.int d)), (nm "l", .frz (.int l)), (nm "r", .frz (.int r))]
noncomputable def cmT : PySem.Expr := match (dF 5).body with | [.For t _ _ _ _, _] => t | _ => .Constant .none 0 ⟨0, 0, 0, 0⟩
noncomputable def cmB : List Stmt := match (dF 5).body with | [.For _ _ b _ _, _] => b | _ => []

/-- what one turn does, the target bound -/
noncomputable def cmR (K A B : AV) (i d l r : Int) : Fl × R := (if l < r then .ret (.int (-d)) else if r < l then .ret (.int d) else .next, cE K A B (cX i d l r))

theorem cmp_turn (n : Nat) (K A B : AV) (i d l r : Int) (h1 : indexA A (.int i) = some (.int l)) (h2 : indexA B (.int i) = some (.int r)) (ex : List (Str × Var)) (hex : ex = [] ∨ ∃ i d l r, ex = cX i d l r) :
    ∃ ρ1, assignA (dF 5).sc cmT (.tup [.int i, .int d]) (cE K A B ex) = some ρ1 ∧ (RR (n + 10)).ex (dF 5).sc ρ1 cmB = some (cmR K A B i d l r) := by
  have tail : exsN (n + 9) (dF 5).sc (cE K A B (cX i d l r)) (cmB.drop 2) = some (cmR K A B i d l r) := by
    unfold cmR
    by_cases hlr : l < r
    · rw [if_pos hlr]
      refine x_out (by intro h; cases h) (x_if (n := n + 9) (ρ1 := cE K A B (cX i d l r)) (c := decide (l < r)) (by kernel_rfl) (t_cmp (n := n + 8) (A := ⟨.int l, false⟩) (B := ⟨.int r, false⟩) rfl (by kernel_rfl) (by kernel_rfl) rfl) ?_)
      rw [if_pos (by simpa using hlr)]
      exact (ex_S (n := n + 8)).trans (x_out (by intro h; cases h) (x_ret (n := n + 8) (ρ1 := cE K A B (cX i d l r)) (by kernel_rfl) (by kernel_rfl)))
    · rw [if_neg hlr]
      refine x_cons (ρ1 := cE K A B (cX i d l r)) (x_if (n := n + 9) (ρ1 := cE K A B (cX i d l r)) (c := decide (l < r)) (by kernel_rfl) (t_cmp (n := n + 8) (A := ⟨.int l, false⟩) (B := ⟨.int r, false⟩) rfl (by kernel_rfl) (by kernel_rfl) rfl) ?_) ?_
      · rw [if_neg (by simpa using hlr)]
        exact (ex_S (n := n + 8)).trans x_nil
      · by_cases hrl : r < l
        · rw [if_pos hrl]
          refine x_out (by intro h; cases h) (x_if (n := n + 9) (ρ1 := cE K A B (cX i d l r)) (c := decide (r < l)) (by kernel_rfl) (t_cmp (n := n + 8) (A := ⟨.int l, false⟩) (B := ⟨.int r, false⟩) rfl (by kernel_rfl) (by kernel_rfl) rfl) ?_)
          rw [if_pos (by simpa using hrl)]
          exact (ex_S (n := n + 8)).trans (x_out (by intro h; cases h) (x_ret (n := n + 8) (ρ1 := cE K A B (cX i d l r)) (by kernel_rfl) (by kernel_rfl)))
        · rw [if_neg hrl]
          refine x_cons (ρ1 := cE K A B (cX i d l r)) (x_if (n := n + 9) (ρ1 := cE K A B (cX i d l r)) (c := decide (r < l)) (by kernel_rfl) (t_cmp (n := n + 8) (A := ⟨.int l, false⟩) (B := ⟨.int r, false⟩) rfl (by kernel_rfl) (by kernel_rfl) rfl) ?_) x_nil
          rw [if_neg (by simpa using hrl)]
          exact (ex_S (n := n + 8)).trans x_nil
  rcases hex with rfl | ⟨i', d', l', r', rfl⟩
  · refine ⟨cE K A B [(nm "index", .frz (.int i)), (nm "direction", .frz (.int d))], by kernel_rfl, (ex_S (n := n + 9)).trans ?_⟩
    refine x_cons (x_name (n := n + 9) (v := .int l) (ρ1 := cE K A B [(nm "index", .frz (.int i)), (nm "direction", .frz (.int d))]) (ρ' := cE K A B [(nm "index", .frz (.int i)), (nm "direction", .frz (.int d)), (nm "l", .frz (.int l))]) rfl (by kernel_rfl) (e_sub (n := n + 8) (A := ⟨A, false⟩) (B := ⟨.int i, false⟩) rfl (by kernel_rfl) (by kernel_rfl) h1) (by kernel_rfl)) ?_
    exact x_cons (x_name (n := n + 9) (v := .int r) (ρ1 := cE K A B [(nm "index", .frz (.int i)), (nm "direction", .frz (.int d)), (nm "l", .frz (.int l))]) (ρ' := cE K A B (cX i d l r)) rfl (by kernel_rfl) (e_sub (n := n + 8) (A := ⟨B, false⟩) (B := ⟨.int i, false⟩) rfl (by kernel_rfl) (by kernel_rfl) h2) (by kernel_rfl)) tail
  · refine ⟨cE K A B (cX i d l' r'), by kernel_rfl, (ex_S (n := n + 9)).trans ?_⟩
    refine x_cons (x_name (n := n + 9) (v := .int l) (ρ1 := cE K A B (cX i d l' r')) (ρ' := cE K A B (cX i d l r')) rfl (by kernel_rfl) (e_sub (n := n + 8) (A := ⟨A, false⟩) (B := ⟨.int i, false⟩) rfl (by kernel_rfl) (by kernel_rfl) h1) (by kernel_rfl)) ?_
    exact x_cons (x_name (n := n + 9) (v := .int r) (ρ1 := cE K A B (cX i d l r')) (ρ' := cE K A B (cX i d l r)) rfl (by kernel_rfl) (e_sub (n := n + 8) (A := ⟨B, false⟩) (B := ⟨.int i, false⟩) rfl (by kernel_rfl) (by kernel_rfl) h2) (by kernel_rfl)) tail

theorem cmp_loop_eq (n : Nat) (K : AV) (f g : Rel) : ∀ (ps : List (Nat × Nat)) (ex : List (Str × Var)), (∀ p ∈ ps, p ∈ p12 ∧ kb f p = kb g p) → (ex = [] ∨ ∃ i d l r, ex = cX i d l r) →
    ∃ ex', forA (RR (n + 10)) (dF 5).sc cmT cmB (ps.map keyA) (cE K (rowV f) (rowV g) ex) = some (.next, cE K (rowV f) (rowV g) ex') ∧ (ex' = [] ∨ ∃ i d l r, ex' = cX i d l r)
  | [], ex, h, hex => ⟨ex, f_nil, hex⟩
  | p :: ps, ex, h, hex => by
    obtain ⟨hp, he⟩ := h p List.mem_cons_self
    obtain ⟨ρ1, t1, t2⟩ := cmp_turn n K (rowV f) (rowV g) (ki p) (kd p) _ _ (row_at f p hp) (row_at g p hp) ex hex
    rw [he] at t2
    have e : cmR K (rowV f) (rowV g) (ki p) (kd p) (bit (kb g p)) (bit (kb g p)) = (.next, cE K (rowV f) (rowV g) (cX (ki p) (kd p) (bit (kb g p)) (bit (kb g p)))) := by
      unfold cmR
      rw [if_neg (by lia), if_neg (by lia)]
    rw [e] at t2
    obtain ⟨ex', i1, i2⟩ := cmp_loop_eq n K f g ps _ (fun q hq => h q (List.mem_cons_of_mem _ hq)) (.inr ⟨_, _, _, _, rfl⟩)
    rw [List.map_cons, key_eq]
    exact ⟨ex', f_next t1 t2 i1, i2⟩

theorem cmp_loop_ne (n : Nat) (K : AV) (f g : Rel) : ∀ (a : List (Nat × Nat)) (p : Nat × Nat) (b : List (Nat × Nat)) (ex : List (Str × Var)), (∀ q ∈ a, q ∈ p12 ∧ kb f q = kb g q) → p ∈ p12 → kb f p ≠ kb g p → (ex = [] ∨ ∃ i d l r, ex = cX i d l r) →
    ∃ ρ', forA (RR (n + 10)) (dF 5).sc cmT cmB ((a ++ p :: b).map keyA) (cE K (rowV f) (rowV g) ex) = some (.ret (.int (if kb f p = true then kd p else -kd p)), ρ')
  | [], p, b, ex, h, hp, hne, hex => by
    obtain ⟨ρ1, t1, t2⟩ := cmp_turn n K (rowV f) (rowV g) (ki p) (kd p) _ _ (row_at f p hp) (row_at g p hp) ex hex
    rw [List.nil_append, List.map_cons, key_eq]
    cases h1 : kb f p <;> cases h2 : kb g p
    · exact absurd (h1.trans h2.symm) hne
    · rw [h1, h2] at t2
      exact ⟨_, f_ret t1 t2⟩
    · rw [h1, h2] at t2
      exact ⟨_, f_ret t1 t2⟩
    · exact absurd (h1.trans h2.symm) hne
  | q :: a, p, b, ex, h, hp, hne, hex => by
    obtain ⟨hq, he⟩ := h q List.mem_cons_self
    obtain ⟨ρ1, t1, t2⟩ := cmp_turn n K (rowV f) (rowV g) (ki q) (kd q) _ _ (row_at f q hq) (row_at g q hq) ex hex
    rw [he] at t2
    have e : cmR K (rowV f) (rowV g) (ki q) (kd q) (bit (kb g q)) (bit (kb g q)) = (.next, cE K (rowV f) (rowV g) (cX (ki q) (kd q) (bit (kb g q)) (bit (kb g q)))) := by
      unfold cmR
      rw [if_neg (by lia), if_neg (by lia)]
    rw [e] at t2
    obtain ⟨ρ', i1⟩ := cmp_loop_ne n K f g a p b _ (fun q hq => h q (List.mem_cons_of_mem _ hq)) hp hne (.inr ⟨_, _, _, _, rfl⟩)
    rw [List.cons_append, List.map_cons, key_eq]
    exact ⟨ρ', f_next t1 t2 i1⟩

theorem compare_eq (n : Nat) (ps : List (Nat × Nat)) (f g : Rel) (hl : ps.length ≤ 4096) (h : ∀ p ∈ ps, p ∈ p12 ∧ kb f p = kb g p) : (RR (n + 12)).call (nm "compare") [.frz (.inst (.list (ps.map keyA))), .frz (rowV f), .frz (rowV g)] = some (.int 0, none) := by
  obtain ⟨ex', h1, h2⟩ := cmp_loop_eq n (.list (ps.map keyA)) f g ps [] h (.inl rfl)
  have hl' : (ps.map keyA).length ≤ 4096 := by simpa using hl
  generalize ps.map keyA = K at *
  generalize rowV f = A at *
  generalize rowV g = B at *
  refine call_frz (n := n + 11) (d := dF 5) (vs := [.inst (.list K), A, B]) (fl := .ret (.int 0)) (ρ' := cE (.list K) A B ex') (by kernel_rfl) (by kernel_rfl) ?_ rfl
  refine (ex_S (n := n + 10)).trans ?_
  refine x_cons (x_for (n := n + 10) (ρ1 := cE (.list K) A B []) (src := .list K) (l := K) (by kernel_rfl) (by kernel_rfl) (by kernel_rfl) (by kernel_rfl) (by kernel_rfl) hl' h1) ?_
  exact x_out (by intro h; cases h) (x_ret (n := n + 10) (ρ1 := cE (.list K) A B ex') (by kernel_rfl) (by kernel_rfl))

theorem compare_ne (n : Nat) (a : List (Nat × Nat)) (p : Nat × Nat) (b : List (Nat × Nat)) (f g : Rel) (hl : (a ++ p :: b).length ≤ 4096) (h : ∀ q ∈ a, q ∈ p12 ∧ kb f q = kb g q) (hp : p ∈ p12) (hne : kb f p ≠ kb g p) :
    (RR (n + 12)).call (nm "compare") [.frz (.inst (.list ((a ++ p :: b).map keyA))), .frz (rowV f), .frz (rowV g)] = some (.int (if kb f p = true then kd p else -kd p), none) := by
  obtain ⟨ρ', h1⟩ := cmp_loop_ne n (.list ((a ++ p :: b).map keyA)) f g a p b [] h hp hne (.inl rfl)
  have hl' : ((a ++ p :: b).map keyA).length ≤ 4096 := by rw [List.length_map]; exact hl
  generalize (a ++ p :: b).map keyA = K at *
  generalize (if kb f p = true then kd p else -kd p) = res at *
  generalize rowV f = A at *
  generalize rowV g = B at *
  refine call_frz (n := n + 11) (d := dF 5) (vs := [.inst (.list K), A, B]) (fl := .ret (.int res)) (ρ' := ρ') (by kernel_rfl) (by kernel_rfl) ?_ rfl
  refine (ex_S (n := n + 10)).trans ?_
  exact x_out (by intro h; cases h) (x_for (n := n + 10) (ρ1 := cE (.list K) A B []) (src := .list K) (l := K) (by kernel_rfl) (by kernel_rfl) (by kernel_rfl) (by kernel_rfl) (by kernel_rfl) hl' h1)

/-- what the law asks of the judge -/
theorem judge (n : Nat) (ps : List (Nat × Nat)) (hl : ps.length ≤ 4096) (hps : ∀ p ∈ ps, p ∈ p12) (hall : ∀ p ∈ p12, p ∈ ps) (l l' : List Nat) (h1 : l ∈ perms) (h2 : l' ∈ perms) (hT : ∀ u, u < 4 → ∀ v, v < 4 → lockAll P0 ps u v = relS l u v) :
    (RR (n + 12)).call (nm "compare") [.frz (.inst (.list (ps.map keyA))), .frz (rowV (relS l)), .frz (rowV (relS l'))] = some (.int (if l' = l then 0 else -1), none) := by
  by_cases e : l' = l
  · subst e
    rw [if_pos rfl]
    exact compare_eq n ps _ _ hl fun p hp => ⟨hps p hp, rfl⟩
  · rw [if_neg e]
    have anti : ∀ (l : List Nat), l ∈ perms → ∀ u v, u ≠ v → relS l v u = !relS l u v := by
      intro l hl u v huv
      have hne : posn l u ≠ posn l v := fun q => huv (posn_inj hl u v q)
      unfold relS
      by_cases h : posn l u ≤ posn l v
      · have : ¬ posn l v ≤ posn l u := by lia
        simp [h, this]
      · have : posn l v ≤ posn l u := by lia
        simp [h, this]
    have kbe : ∀ p ∈ p12, (kb (relS l) p = kb (relS l') p ↔ relS l p.1 p.2 = relS l' p.1 p.2) := by
      intro p hp
      obtain ⟨_, _, hne⟩ := p12_lt hp
      unfold kb
      split
      · rfl
      · rw [anti l h1 p.1 p.2 hne, anti l' h2 p.1 p.2 hne]
        cases relS l p.1 p.2 <;> cases relS l' p.1 p.2 <;> simp
    have hex : ∃ p ∈ p12, relS l p.1 p.2 ≠ relS l' p.1 p.2 := by
      have : ∀ l ∈ perms, ∀ l' ∈ perms, l' ≠ l → ∃ p ∈ p12, relS l p.1 p.2 ≠ relS l' p.1 p.2 := by decide +kernel
      exact this l h1 l' h2 e
    have split : ∀ (ps : List (Nat × Nat)), (∃ p ∈ ps, relS l p.1 p.2 ≠ relS l' p.1 p.2) → ∃ a p b, ps = a ++ p :: b ∧ (∀ q ∈ a, relS l q.1 q.2 = relS l' q.1 q.2) ∧ relS l p.1 p.2 ≠ relS l' p.1 p.2 := by
      intro ps
      induction ps with
      | nil => rintro ⟨p, hp, _⟩; cases hp
      | cons q ps ih =>
        rintro ⟨p, hp, hne⟩
        by_cases hq : relS l q.1 q.2 = relS l' q.1 q.2
        · rcases List.mem_cons.mp hp with rfl | hp
          · exact absurd hq hne
          · obtain ⟨a, p', b, rfl, ha, hb⟩ := ih ⟨p, hp, hne⟩
            refine ⟨q :: a, p', b, rfl, fun r hr => ?_, hb⟩
            rcases List.mem_cons.mp hr with rfl | hr
            · exact hq
            · exact ha r hr
        · exact ⟨[], q, ps, rfl, (fun _ h => nomatch h), hq⟩
    obtain ⟨p0, hp0, hne0⟩ := hex
    obtain ⟨a, p, b, rfl, ha, hne⟩ := split ps ⟨p0, hall p0 hp0, hne0⟩
    have hp : p ∈ p12 := hps p (by simp)
    obtain ⟨hx, hy, hxy⟩ := p12_lt hp
    have hb := best (relS_ord h2) a b p hxy (fun q hq => by
      obtain ⟨q1, q2, _⟩ := p12_lt (hps q (by simp [hq]))
      rw [hT _ q1 _ q2]; exact ha q hq) (by rw [hT _ hx _ hy]; exact hne)
    rw [hT _ hx _ hy] at hb
    have hc := compare_ne n a p b (relS l) (relS l') hl (fun q hq => ⟨hps q (by simp [hq]), (kbe q (hps q (by simp [hq]))).mpr (ha q hq)⟩) hp (fun q => hne ((kbe p hp).mp q))
    rw [hc]
    congr 3
    unfold kb kd
    by_cases hlt : p.1 < p.2
    · rw [if_pos hlt, if_pos hlt, if_pos hb.1]
    · rw [if_neg hlt, if_neg hlt, anti l h1 p.1 p.2 hxy, hb.1]; rfl
end Mine.P

end

/-! part Att1 -/
section
set_option maxRecDepth 100000
set_option autoImplicit false
set_option linter.unusedVariables false
namespace Mine.P
open PySem

/-! _law_attained: one turn -/

theorem putL_look {α : Type} (k k' : Str) (v : α) : ∀ (D : List (Str × α)), (put D k v).lookup k' = if k' = k then some v else D.lookup k'
  | [] => by
    unfold put
    by_cases h : k' = k
    · subst h; simp [List.lookup]
    · have : (k' == k) = false := by simpa using h
      simp [List.lookup, this, h]
  | (y, u) :: r => by
    unfold put
    by_cases hy : y = k
    · subst hy
      rw [if_pos rfl]
      by_cases h : k' = y
      · subst h; simp [List.lookup]
      · have : (k' == y) = false := by simpa using h
        simp [List.lookup, this, h]
    · rw [if_neg hy]
      by_cases h : k' = y
      · subst h
        simp [List.lookup, hy]
      · have : (k' == y) = false := by simpa using h
        simp only [List.lookup, this]
        exact putL_look k k' v r
theorem putL_len {α : Type} (k : Str) (v : α) : ∀ (D : List (Str × α)), (put D k v).length ≤ D.length + 1
  | [] => by simp [put]
  | (y, u) :: r => by
    unfold put
    split
    · simp
    · have := putL_len k v r
      simp; omega

theorem cs_app (l k : List Nat) : cs l ++ cs k = cs (l ++ k) := by
  show Str.append _ _ = _
  simp [Str.append, cs]
theorem add_cs (a b : Nat) : binA .Add (.str (cs [a])) (.str (cs [b])) = some (.str (cs [a, b])) := by
  rw [b_sadd, if_pos (by simp [cs, Str.length]), cs_app]; rfl

noncomputable def encL (k : Int) : List AV := [.int (k / 16), .str (ch (k % 16 / 4)), .str (ch (k % 4))]
theorem min_enc (v : Int) : ∀ (l : List Int), bestBy ltFlat (enc v) (l.map enc) = some (enc (l.foldl min v))
  | [] => rfl
  | b :: l => by
    rw [List.map_cons, List.foldl_cons]
    refine bndI (a := encL v) rfl (bndI (a := encL b) rfl (bndI (enc_lt b v) ?_))
    by_cases hb : b < v
    · rw [decide_eq_true hb, show min v b = b by omega]
      exact min_enc b l
    · rw [decide_eq_false hb, show min v b = v by lia]
      exact min_enc v l
theorem max_enc (a b : Int) : builtinA (nm "max") [⟨enc a, false⟩, ⟨enc b, false⟩] = some (enc (max a b)) := by
  refine eif (by decide) (tif rfl (bndI (a := (⟨enc a, false⟩, ⟨enc b, false⟩)) rfl (bndI (a := encL a) rfl (bndI (a := encL b) rfl ((mpdI (enc_lt a b)).trans ?_)))))
  by_cases hb : a < b
  · rw [decide_eq_true hb, show max a b = b by omega]; rfl
  · rw [decide_eq_false hb, show max a b = a by omega]; rfl

noncomputable def aE (o : Str) (W : AV) (T D : List (Str × AV)) (ex : List (Str × Var)) : R := ⟨(nm "order", .frz (.str o)) :: (nm "weights", .frz W) :: (nm "turn", .own (.dict T)) :: (nm "best", .own (.dict D)) :: ex, []⟩
noncomputable def aX (s i : Int) (x y : Str) (w : AV) : List (Str × Var) := [(nm "size", .frz (.int s)), (nm "i", .frz (.int i)), (nm "x", .frz (.str x)), (nm "y", .frz (.str y)), (nm "ways", .frz w)]
noncomputable def atB : List Stmt := match (dF 15).body with | [_, _, .For _ _ [.For _ _ b _ _] _ _, _] => b | _ => []
noncomputable def wayC : PySem.Expr := match atB with | [_, .Assign _ (.BinOp _ _ c _) _, _, _] => c | _ => .Constant .none 0 ⟨0, 0, 0, 0⟩
noncomputable def wayS : Scope := match wayC with | .ListComp _ _ cs _ => cs | _ => (dF 15).sc
noncomputable def wayE : PySem.Expr := match wayC with | .ListComp e _ _ _ => e | _ => .Constant .none 0 ⟨0, 0, 0, 0⟩
noncomputable def wayT : PySem.Expr := match wayC with | .ListComp _ [⟨t, _, _, _⟩] _ _ => t | _ => .Constant .none 0 ⟨0, 0, 0, 0⟩
noncomputable def wayI : PySem.Expr := match wayC with | .ListComp _ [⟨_, i, _, _⟩] _ _ => i | _ => .Constant .none 0 ⟨0, 0, 0, 0⟩


section
variable {n : Nat} {sc : Scope} {cx : CX} {ρ ρ1 : R}
theorem e_slice {e lo hi : PySem.Expr} {p q : Pos} {A : AR} {l h : Int} {o1 o2 : Bool} {v : AV} (h1 : (RR n).ev cx ρ e = some A) (h2 : (RR n).ev cx ρ lo = some ⟨.int l, o1⟩) (h3 : (RR n).ev cx ρ hi = some ⟨.int h, o2⟩) (s1 : small l = true) (s2 : small h = true) (hv : sliceA A.v (some l) (some h) = some v) :
    (RR (n + 1)).ev cx ρ (.Subscript e (.Slice (some lo) (some hi) none p) q) = some ⟨v, false⟩ := by
  show evSub (RR n) cx ρ e (.Slice (some lo) (some hi) none p) = _
  exact someI (a := (some lo, some hi)) rfl (bndI h1 (bndI (bndI (mpdI h2) (bound_of s1)) (bndI (bndI (mpdI h3) (bound_of s2)) (mpdI hv))))
theorem x_unpack {ts es : List PySem.Expr} {k kk : Nat} {p q pp : Pos} {v : AV} {ρ2 : R} (hs : swapOk ts (.Tuple es kk pp) = true) (hf : freeze ρ (.Tuple es kk pp) = ρ1) (h1 : (RR n).ev ⟨sc, none⟩ ρ1 (.Tuple es kk pp) = some ⟨v, false⟩) (h2 : assignA sc (.Tuple ts k p) v ρ1 = some ρ2) : ex1N n sc ρ (.Assign [.Tuple ts k p] (.Tuple es kk pp) q) = some (.next, ρ2) := by
  show exTup (RR n) sc ρ ts k p (.Tuple es kk pp) = _
  unfold exTup
  rw [hf]
  exact ifsI hs (bndI (clean_of h1) (mpdI h2))
end

noncomputable def gW (B : Nat → Nat → Int) (a b : Nat) : AV → Option AV := fun v => match v with
  | .str s => some (enc (max (B a (s.cps.toList.headD 0 - 97)) (B (s.cps.toList.headD 0 - 97) b)))
  | _ => none
theorem gW_map (B : Nat → Nat → Int) (a b : Nat) : ∀ (zs : List Nat), (zs.map fun z => AV.str (cs [z])).filterMap (gW B a b) = (zs.map fun z => max (B a z) (B z b)).map enc
  | [] => rfl
  | z :: zs => by
    rw [List.map_cons, List.filterMap_cons, gW_map B a b zs]
    simp [gW, cs]
theorem iter_cs (t : PySem.Expr) (zs : List Nat) (h : ∀ z ∈ zs, z < 4) : iterA t (.str (cs zs)) = some (zs.map fun z => .str (cs [z])) := by
  have : (cs zs).cps.all (· < 128) = true := by
    simp only [cs, Array.all_eq_true_iff_forall_mem, List.mem_toArray, List.mem_map, decide_eq_true_eq]
    rintro x ⟨z, hz, rfl⟩
    have := h z hz
    lia
  refine tif this ?_
  simp [chars, cs]

noncomputable def aZ (s i : Int) (a b : Nat) (ex : List (Str × Var)) : List (Str × Var) := (nm "size", .frz (.int s)) :: (nm "i", .frz (.int i)) :: (nm "x", .frz (.str (cs [a]))) :: (nm "y", .frz (.str (cs [b]))) :: ex

theorem ways_ev (n : Nat) (o : Str) (W : AV) (T D : List (Str × AV)) (s i : Int) (a b : Nat) (zs : List Nat) (k : Int) (B : Nat → Nat → Int) (ex : List (Str × Var)) (hT : T.lookup (cs [a, b]) = some (enc k)) (hD : ∀ z ∈ zs, D.lookup (cs [a, z]) = some (enc (B a z)) ∧ D.lookup (cs [z, b]) = some (enc (B z b)))
    (hs : small (i + 1) = true) (hs2 : small (i + s) = true) (hsl : sliceA (.str o) (some (i + 1)) (some (i + s)) = some (.str (cs zs))) (hz : ∀ z ∈ zs, z < 4) (hzl : zs.length ≤ 4000) :
    (RR (n + 20)).ev ⟨(dF 15).sc, none⟩ (aE o W T D (aZ s i a b ex)) (match atB with | [_, .Assign _ e _, _, _] => e | _ => .Constant .none 0 ⟨0, 0, 0, 0⟩) = some ⟨.list ((k :: zs.map fun z => max (B a z) (B z b)).map enc), false⟩ := by
  have hadd : binA .Add (.list [enc k]) (.list ((zs.map fun z => max (B a z) (B z b)).map enc)) = some (.list ((k :: zs.map fun z => max (B a z) (B z b)).map enc)) := by
    rw [b_ladd, if_pos (by simp; lia)]; rfl
  refine e_bin (n := n + 19) (A := ⟨.list [enc k], false⟩) (B := ⟨.list ((zs.map fun z => max (B a z) (B z b)).map enc), false⟩) ?_ ?_ hadd
  · exact e_list (n := n + 18) (evs_cons rfl (e_sub (n := n + 17) (A := ⟨.dict T, true⟩) (B := ⟨.str (cs [a, b]), false⟩) rfl (by kernel_rfl) (e_bin (n := n + 16) (A := ⟨.str (cs [a]), false⟩) (B := ⟨.str (cs [b]), false⟩) (by kernel_rfl) (by kernel_rfl) (add_cs a b)) hT) evs_nil) (by simp)
  · rw [← gW_map]
    refine e_lc (n := n + 18) (src := .str (cs zs)) (by kernel_rfl) (e_slice (n := n + 17) (A := ⟨.str o, false⟩) (l := i + 1) (h := i + s) (o1 := false) (o2 := false) (by kernel_rfl) (by kernel_rfl) (by kernel_rfl) hs hs2 hsl) (iter_cs _ zs hz) (by simp; lia) rfl fun v hv => ?_
    obtain ⟨z, hzm, rfl⟩ := List.mem_map.mp hv
    obtain ⟨d1, d2⟩ := hD z hzm
    have hg : gW B a b (.str (cs [z])) = some (enc (max (B a z) (B z b))) := by simp [gW, cs]
    rw [hg]
    refine step_yes (ρ1 := { aE o W T D (aZ s i a b ex) with comp := [(nm "z", .str (cs [z]))] }) (by kernel_rfl) rfl (emitL_of ?_)
    refine e_built (n := n + 17) (vs := [⟨enc (B a z), false⟩, ⟨enc (B z b), false⟩]) (by kernel_rfl) (by kernel_rfl) (evrs_cons rfl ?_ (evrs_cons rfl ?_ evrs_nil)) (max_enc _ _)
    · exact e_sub (n := n + 16) (A := ⟨.dict D, true⟩) (B := ⟨.str (cs [a, z]), false⟩) rfl (by kernel_rfl) (e_bin (n := n + 15) (A := ⟨.str (cs [a]), false⟩) (B := ⟨.str (cs [z]), false⟩) (by kernel_rfl) (by kernel_rfl) (add_cs a z)) d1
    · exact e_sub (n := n + 16) (A := ⟨.dict D, true⟩) (B := ⟨.str (cs [z, b]), false⟩) rfl (by kernel_rfl) (e_bin (n := n + 15) (A := ⟨.str (cs [z]), false⟩) (B := ⟨.str (cs [b]), false⟩) (by kernel_rfl) (by kernel_rfl) (add_cs z b)) d2

theorem at_turn (n : Nat) (o : Str) (W : AV) (T D : List (Str × AV)) (s i : Int) (a b : Nat) (zs : List Nat) (k k2 m : Int) (B : Nat → Nat → Int) (ex : List (Str × Var)) (hex : ex = [] ∨ ∃ x y w, ex = [(nm "x", .frz (.str x)), (nm "y", .frz (.str y)), (nm "ways", .frz w)])
    (ho1 : indexA (.str o) (.int i) = some (.str (cs [a]))) (ho2 : indexA (.str o) (.int (i + s)) = some (.str (cs [b])))
    (hT : T.lookup (cs [a, b]) = some (enc k)) (hT2 : T.lookup (cs [b, a]) = some (enc k2)) (hD : ∀ z ∈ zs, D.lookup (cs [a, z]) = some (enc (B a z)) ∧ D.lookup (cs [z, b]) = some (enc (B z b)))
    (hs : small (i + 1) = true) (hs2 : small (i + s) = true) (hsl : sliceA (.str o) (some (i + 1)) (some (i + s)) = some (.str (cs zs))) (hz : ∀ z ∈ zs, z < 4) (hzl : zs.length ≤ 4000) (hDl : D.length ≤ 4096)
    (hm : (zs.map fun z => max (B a z) (B z b)).foldl min k = m) (hlt : m < k2) :
    ∃ x y w, (RR (n + 23)).ex (dF 15).sc (aE o W T D ((nm "size", .frz (.int s)) :: (nm "i", .frz (.int i)) :: ex)) atB = some (.next, aE o W T (put D (cs [a, b]) (enc m)) ((nm "size", .frz (.int s)) :: (nm "i", .frz (.int i)) :: [(nm "x", .frz (.str x)), (nm "y", .frz (.str y)), (nm "ways", .frz w)])) := by
  refine ⟨cs [a], cs [b], .list ((k :: zs.map fun z => max (B a z) (B z b)).map enc), (ex_S (n := n + 22)).trans ?_⟩
  have s1 : ∃ ex1, (ex1 = [] ∨ ∃ w, ex1 = [(nm "ways", .frz w)]) ∧ ex1N (n + 22) (dF 15).sc (aE o W T D ((nm "size", .frz (.int s)) :: (nm "i", .frz (.int i)) :: ex)) (atB.headD (.Break ⟨0, 0, 0, 0⟩)) = some (.next, aE o W T D (aZ s i a b ex1)) := by
    rcases hex with rfl | ⟨x, y, w, rfl⟩
    · refine ⟨[], .inl rfl, x_unpack (n := n + 22) (ρ1 := aE o W T D ((nm "size", .frz (.int s)) :: (nm "i", .frz (.int i)) :: [])) (v := .tup [.str (cs [a]), .str (cs [b])]) (by kernel_rfl) (by kernel_rfl) (e_tup (n := n + 21) (evs_cons rfl (e_sub (n := n + 20) (A := ⟨.str o, false⟩) (B := ⟨.int i, false⟩) rfl (by kernel_rfl) (by kernel_rfl) ho1) (evs_cons rfl (e_sub (n := n + 20) (A := ⟨.str o, false⟩) (B := ⟨.int (i + s), false⟩) rfl (by kernel_rfl) (by kernel_rfl) ho2) evs_nil)) (by simp)) (by kernel_rfl)⟩
    · refine ⟨[(nm "ways", .frz w)], .inr ⟨w, rfl⟩, x_unpack (n := n + 22) (ρ1 := aE o W T D ((nm "size", .frz (.int s)) :: (nm "i", .frz (.int i)) :: [(nm "x", .frz (.str x)), (nm "y", .frz (.str y)), (nm "ways", .frz w)])) (v := .tup [.str (cs [a]), .str (cs [b])]) (by kernel_rfl) (by kernel_rfl) (e_tup (n := n + 21) (evs_cons rfl (e_sub (n := n + 20) (A := ⟨.str o, false⟩) (B := ⟨.int i, false⟩) rfl (by kernel_rfl) (by kernel_rfl) ho1) (evs_cons rfl (e_sub (n := n + 20) (A := ⟨.str o, false⟩) (B := ⟨.int (i + s), false⟩) rfl (by kernel_rfl) (by kernel_rfl) ho2) evs_nil)) (by simp)) (by kernel_rfl)⟩
  obtain ⟨ex1, hex1, s1⟩ := s1
  refine x_cons s1 ?_
  have hw := ways_ev (n + 2) o W T D s i a b zs k B ex1 hT hD hs hs2 hsl hz hzl
  have hmin : bestBy ltFlat (enc k) ((zs.map fun z => max (B a z) (B z b)).map enc) = some (enc m) := by rw [min_enc, hm]
  have hl1 : (put D (cs [a, b]) (enc m)).lookup (cs [a, b]) = some (enc m) := by rw [putL_look, if_pos rfl]
  have hst : storeA (.dict D) (.str (cs [a, b])) (enc m) = some (.dict (put D (cs [a, b]) (enc m))) := st_dict hDl
  have hlt' : cmpA .Lt (enc m) (enc k2) = some true := by rw [enc_lt, decide_eq_true hlt]
  have hab := add_cs a b
  have hba := add_cs b a
  rw [List.map_cons] at hw ⊢
  generalize (zs.map fun z => max (B a z) (B z b)).map enc = ms at *
  generalize put D (cs [a, b]) (enc m) = D2 at *
  have hbi : builtinA (nm "min") [⟨.list (enc k :: ms), false⟩] = some (enc m) := tif rfl (bndI (a := ⟨.list (enc k :: ms), false⟩) rfl (bndI (a := enc k :: ms) rfl (bndI (a := enc k) rfl hmin)))
  refine x_cons (ρ1 := aE o W T D (aZ s i a b [(nm "ways", .frz (.list (enc k :: ms)))])) (x_name (n := n + 22) (ρ1 := aE o W T D (aZ s i a b ex1)) rfl (by rcases hex1 with rfl | ⟨w, rfl⟩ <;> kernel_rfl) hw (by rcases hex1 with rfl | ⟨w, rfl⟩ <;> kernel_rfl)) ?_
  refine x_cons (ρ1 := aE o W T D2 (aZ s i a b [(nm "ways", .frz (.list (enc k :: ms)))])) (x_store (n := n + 22) (ρ1 := aE o W T D (aZ s i a b [(nm "ways", .frz (.list (enc k :: ms)))])) (I := ⟨.str (cs [a, b]), false⟩) (v := enc m) (c := .dict D) (by kernel_rfl) (by kernel_rfl)
    (e_built (n := n + 21) (vs := [⟨.list (enc k :: ms), false⟩]) (by kernel_rfl) (by kernel_rfl) (by kernel_rfl) hbi) (e_bin (n := n + 21) (A := ⟨.str (cs [a]), false⟩) (B := ⟨.str (cs [b]), false⟩) (by kernel_rfl) (by kernel_rfl) hab) (by kernel_rfl) hst (by kernel_rfl)) ?_
  refine x_cons (ρ1 := aE o W T D2 (aZ s i a b [(nm "ways", .frz (.list (enc k :: ms)))])) (x_if (n := n + 22) (ρ1 := aE o W T D2 (aZ s i a b [(nm "ways", .frz (.list (enc k :: ms)))])) (c := !true) (by kernel_rfl) (t_not (n := n + 21) (t_cmp (n := n + 20) (A := ⟨enc m, false⟩) (B := ⟨enc k2, false⟩) rfl
    (e_sub (n := n + 19) (A := ⟨.dict D2, true⟩) (B := ⟨.str (cs [a, b]), false⟩) rfl (by kernel_rfl) (e_bin (n := n + 18) (A := ⟨.str (cs [a]), false⟩) (B := ⟨.str (cs [b]), false⟩) (by kernel_rfl) (by kernel_rfl) hab) hl1)
    (e_sub (n := n + 19) (A := ⟨.dict T, true⟩) (B := ⟨.str (cs [b, a]), false⟩) rfl (by kernel_rfl) (e_bin (n := n + 18) (A := ⟨.str (cs [b]), false⟩) (B := ⟨.str (cs [a]), false⟩) (by kernel_rfl) (by kernel_rfl) hba) hT2) hlt')) ?_) x_nil
  rw [if_neg (by decide)]
  exact (ex_S (n := n + 21)).trans x_nil
end Mine.P

end

/-! part Att2 -/
section
set_option maxRecDepth 100000
set_option autoImplicit false
set_option linter.unusedVariables false
namespace Mine.P
open PySem

/-! _law_attained -/

noncomputable def p16 : List (Nat × Nat) := [(0, 0), (0, 1), (0, 2), (0, 3), (1, 0), (1, 1), (1, 2), (1, 3), (2, 0), (2, 1), (2, 2), (2, 3), (3, 0), (3, 1), (3, 2), (3, 3)]
theorem mem16 {x y : Nat} (hx : x < 4) (hy : y < 4) : (x, y) ∈ p16 := by
  have : ∀ x, x < 4 → ∀ y, y < 4 → (x, y) ∈ p16 := by decide
  exact this x hx y hy
/-- the weights by pairs -/
noncomputable def wD (W : Nat → Nat → Int) : List (Str × AV) := p16.map fun p => (cs [p.1, p.2], .int (W p.1 p.2))
noncomputable def tD (K : Nat → Nat → Int) : List (Str × AV) := p16.map fun p => (cs [p.1, p.2], enc (K p.1 p.2))
noncomputable def tD' (W : Nat → Nat → Int) : List (Str × AV) := p16.map fun p => (cs [p.1, p.2], .tup [.int (-(W p.1 p.2)), .str (cs [p.1]), .str (cs [p.2])])
noncomputable def keyK (W : Nat → Nat → Int) (x y : Nat) : Int := 16 * (-(W x y)) + 4 * x + y

theorem enc_keyK (W : Nat → Nat → Int) {x y : Nat} (hx : x < 4) (hy : y < 4) : enc (keyK W x y) = .tup [.int (-(W x y)), .str (cs [x]), .str (cs [y])] := by
  rw [enc_at (keyK W x y) x y hx hy (by unfold keyK; lia)]
  have : keyK W x y / 16 = -(W x y) := by unfold keyK; lia
  rw [this]
theorem p16_lt {p : Nat × Nat} (h : p ∈ p16) : p.1 < 4 ∧ p.2 < 4 := by
  have : ∀ p ∈ p16, p.1 < 4 ∧ p.2 < 4 := by decide
  exact this p h
theorem tD_eq (W : Nat → Nat → Int) : tD' W = tD (keyK W) := by
  unfold tD' tD
  refine List.map_congr_left fun p hp => ?_
  obtain ⟨h1, h2⟩ := p16_lt hp
  rw [enc_keyK W h1 h2]
theorem tD_look (K : Nat → Nat → Int) {x y : Nat} (hx : x < 4) (hy : y < 4) : (tD K).lookup (cs [x, y]) = some (enc (K x y)) :=
  of_map (f := fun p => (tD K).lookup (cs [p.1, p.2])) (g := fun p => some (enc (K p.1 p.2))) (l := p16) (by kernel_rfl) (x, y) (mem16 hx hy)

noncomputable def turnE : PySem.Expr := match (dF 15).body with | [.Assign _ e _, _, _, _] => e | _ => .Constant .none 0 ⟨0, 0, 0, 0⟩
theorem turn_ev (n : Nat) (o : Str) (W : Nat → Nat → Int) : (RR (n + 20)).ev ⟨(dF 15).sc, none⟩ ⟨[(nm "order", .frz (.str o)), (nm "weights", .frz (.dict (wD W)))], []⟩ turnE = some ⟨.dict (tD' W), false⟩ := by
  kernel_rfl

theorem cs2_ne {a b c d : Nat} (h : a ≠ c ∨ b ≠ d) : cs [a, b] ≠ cs [c, d] := by
  intro e
  simp only [cs, List.map_cons, List.map_nil, Str.mk.injEq, Array.mk.injEq, List.cons.injEq, and_true] at e
  lia

noncomputable def atF : List Stmt := match (dF 15).body with | [_, _, .For _ _ b _ _, _] => b | _ => []
noncomputable def sizeT : PySem.Expr := match (dF 15).body with | [_, _, .For t _ _ _ _, _] => t | _ => .Constant .none 0 ⟨0, 0, 0, 0⟩
noncomputable def iT : PySem.Expr := match atF with | [.For t _ _ _ _] => t | _ => .Constant .none 0 ⟨0, 0, 0, 0⟩

theorem at_turn' (n : Nat) (o : Str) (W : AV) (T D : List (Str × AV)) (s i j1 js : Int) (a b : Nat) (zs : List Nat) (k k2 m : Int) (B : Nat → Nat → Int) (ex : List (Str × Var)) (hex : ex = [] ∨ ∃ x y w, ex = [(nm "x", .frz (.str x)), (nm "y", .frz (.str y)), (nm "ways", .frz w)])
    (e1 : i + 1 = j1) (e2 : i + s = js)
    (ho1 : indexA (.str o) (.int i) = some (.str (cs [a]))) (ho2 : indexA (.str o) (.int js) = some (.str (cs [b])))
    (hT : T.lookup (cs [a, b]) = some (enc k)) (hT2 : T.lookup (cs [b, a]) = some (enc k2)) (hD : ∀ z ∈ zs, D.lookup (cs [a, z]) = some (enc (B a z)) ∧ D.lookup (cs [z, b]) = some (enc (B z b)))
    (hs : small j1 = true) (hs2 : small js = true) (hsl : sliceA (.str o) (some j1) (some js) = some (.str (cs zs))) (hz : ∀ z ∈ zs, z < 4) (hzl : zs.length ≤ 4000) (hDl : D.length ≤ 4096)
    (hm : (zs.map fun z => max (B a z) (B z b)).foldl min k = m) (hlt : m < k2) :
    ∃ x y w, (RR (n + 23)).ex (dF 15).sc (aE o W T D ((nm "size", .frz (.int s)) :: (nm "i", .frz (.int i)) :: ex)) atB = some (.next, aE o W T (put D (cs [a, b]) (enc m)) ((nm "size", .frz (.int s)) :: (nm "i", .frz (.int i)) :: [(nm "x", .frz (.str x)), (nm "y", .frz (.str y)), (nm "ways", .frz w)])) := by
  subst e1; subst e2
  exact at_turn n o W T D s i a b zs k k2 m B ex hex ho1 ho2 hT hT2 hD hs hs2 hsl hz hzl hDl hm hlt

noncomputable def exW (ex : List (Str × Var)) : Prop := ∃ x y w, ex = [(nm "x", .frz (.str x)), (nm "y", .frz (.str y)), (nm "ways", .frz w)]
noncomputable def exI (s i : Int) (ex : List (Str × Var)) : List (Str × Var) := (nm "size", .frz (.int s)) :: (nm "i", .frz (.int i)) :: ex

theorem dicts (a b c d : Nat) (hab : a ≠ b) (hac : a ≠ c) (had : a ≠ d) (hbc : b ≠ c) (hbd : b ≠ d) (hcd : c ≠ d) (B : Nat → Nat → Int) : ∃ D1 D2 D3 D4 D5 D6 : List (Str × AV), put [] (cs [a, b]) (enc (B a b)) = D1 ∧ put D1 (cs [b, c]) (enc (B b c)) = D2 ∧ put D2 (cs [c, d]) (enc (B c d)) = D3 ∧ put D3 (cs [a, c]) (enc (B a c)) = D4 ∧ put D4 (cs [b, d]) (enc (B b d)) = D5 ∧ put D5 (cs [a, d]) (enc (B a d)) = D6 ∧
    (D1.length ≤ 1 ∧ D2.length ≤ 2 ∧ D3.length ≤ 3 ∧ D4.length ≤ 4 ∧ D5.length ≤ 5) ∧
    D3.lookup (cs [a, b]) = some (enc (B a b)) ∧ D3.lookup (cs [b, c]) = some (enc (B b c)) ∧ D4.lookup (cs [b, c]) = some (enc (B b c)) ∧ D4.lookup (cs [c, d]) = some (enc (B c d)) ∧
    D5.lookup (cs [a, b]) = some (enc (B a b)) ∧ D5.lookup (cs [c, d]) = some (enc (B c d)) ∧ D5.lookup (cs [a, c]) = some (enc (B a c)) ∧ D5.lookup (cs [b, d]) = some (enc (B b d)) := by
  refine ⟨_, _, _, _, _, _, rfl, rfl, rfl, rfl, rfl, rfl, ?_, ?_⟩
  · generalize hD1 : put [] (cs [a, b]) (enc (B a b)) = D1
    generalize hD2 : put D1 (cs [b, c]) (enc (B b c)) = D2
    generalize hD3 : put D2 (cs [c, d]) (enc (B c d)) = D3
    generalize hD4 : put D3 (cs [a, c]) (enc (B a c)) = D4
    generalize hD5 : put D4 (cs [b, d]) (enc (B b d)) = D5
    have m1 : D1.length ≤ 1 := hD1 ▸ putL_len (cs [a, b]) (enc (B a b)) []
    have m2 : D2.length ≤ 2 := Nat.le_trans (hD2 ▸ putL_len (cs [b, c]) (enc (B b c)) D1) (Nat.succ_le_succ m1)
    have m3 : D3.length ≤ 3 := Nat.le_trans (hD3 ▸ putL_len (cs [c, d]) (enc (B c d)) D2) (Nat.succ_le_succ m2)
    have m4 : D4.length ≤ 4 := Nat.le_trans (hD4 ▸ putL_len (cs [a, c]) (enc (B a c)) D3) (Nat.succ_le_succ m3)
    exact ⟨m1, m2, m3, m4, Nat.le_trans (hD5 ▸ putL_len (cs [b, d]) (enc (B b d)) D4) (Nat.succ_le_succ m4)⟩
  · have q1 : cs [a, b] ≠ cs [b, c] := cs2_ne (by lia)
    have q2 : cs [a, b] ≠ cs [c, d] := cs2_ne (.inl hac)
    have q3 : cs [a, b] ≠ cs [a, c] := cs2_ne (.inr hbc)
    have q4 : cs [a, b] ≠ cs [b, d] := cs2_ne (.inl hab)
    have q5 : cs [b, c] ≠ cs [c, d] := cs2_ne (.inl hbc)
    have q6 : cs [b, c] ≠ cs [a, c] := cs2_ne (.inl (Ne.symm hab))
    have q7 : cs [c, d] ≠ cs [a, c] := cs2_ne (.inl (Ne.symm hac))
    have q8 : cs [c, d] ≠ cs [b, d] := cs2_ne (.inl (Ne.symm hbc))
    have q9 : cs [a, c] ≠ cs [b, d] := cs2_ne (.inl hab)
    refine ⟨?_, ?_, ?_, ?_, ?_, ?_, ?_, ?_⟩ <;> simp only [putL_look, q1, q2, q3, q4, q5, q6, q7, q8, q9, if_false, if_true]

set_option maxHeartbeats 2000000 in
theorem attained_fn (n : Nat) (a b c d : Nat) (ha : a < 4) (hb : b < 4) (hc : c < 4) (hd : d < 4) (hab : a ≠ b) (hac : a ≠ c) (had : a ≠ d) (hbc : b ≠ c) (hbd : b ≠ d) (hcd : c ≠ d) (W : Nat → Nat → Int) (B : Nat → Nat → Int)
    (b1 : B a b = keyK W a b) (b2 : B b c = keyK W b c) (b3 : B c d = keyK W c d) (b4 : B a c = min (keyK W a c) (max (B a b) (B b c))) (b5 : B b d = min (keyK W b d) (max (B b c) (B c d))) (b6 : B a d = min (min (keyK W a d) (max (B a b) (B b d))) (max (B a c) (B c d)))
    (l1 : B a b < keyK W b a) (l2 : B b c < keyK W c b) (l3 : B c d < keyK W d c) (l4 : B a c < keyK W c a) (l5 : B b d < keyK W d b) (l6 : B a d < keyK W d a) :
    (RR (n + 30)).call (nm "_law_attained") [.frz (.str (cs [a, b, c, d])), .frz (.dict (wD W))] = some (.bool true, none) := by
  have te := turn_ev (n + 8) (cs [a, b, c, d]) W
  rw [tD_eq] at te
  generalize keyK W = K at *
  have t : ∀ {x y : Nat}, x < 4 → y < 4 → (tD K).lookup (cs [x, y]) = some (enc (K x y)) := fun hx hy => tD_look K hx hy
  generalize tD K = T at *
  generalize AV.dict (wD W) = WW at *
  have o0 : indexA (.str (cs [a, b, c, d])) (.int 0) = some (.str (cs [a])) := by kernel_rfl
  have o1 : indexA (.str (cs [a, b, c, d])) (.int 1) = some (.str (cs [b])) := by kernel_rfl
  have o2 : indexA (.str (cs [a, b, c, d])) (.int 2) = some (.str (cs [c])) := by kernel_rfl
  have o3 : indexA (.str (cs [a, b, c, d])) (.int 3) = some (.str (cs [d])) := by kernel_rfl
  have s11 : sliceA (.str (cs [a, b, c, d])) (some 1) (some 1) = some (.str (cs [])) := by kernel_rfl
  have s22 : sliceA (.str (cs [a, b, c, d])) (some 2) (some 2) = some (.str (cs [])) := by kernel_rfl
  have s33 : sliceA (.str (cs [a, b, c, d])) (some 3) (some 3) = some (.str (cs [])) := by kernel_rfl
  have s12 : sliceA (.str (cs [a, b, c, d])) (some 1) (some 2) = some (.str (cs [b])) := by kernel_rfl
  have s23 : sliceA (.str (cs [a, b, c, d])) (some 2) (some 3) = some (.str (cs [c])) := by kernel_rfl
  have s13 : sliceA (.str (cs [a, b, c, d])) (some 1) (some 3) = some (.str (cs [b, c])) := by kernel_rfl
  generalize cs [a, b, c, d] = o at *
  have none : ∀ {D : List (Str × AV)} {x y : Nat}, ∀ z ∈ ([] : List Nat), D.lookup (cs [x, z]) = some (enc (B x z)) ∧ D.lookup (cs [z, y]) = some (enc (B z y)) := fun z h => nomatch h
  obtain ⟨D1, D2, D3, D4, D5, D6, d1, d2, d3, d4, d5, d6, ⟨n1, n2, n3, n4, n5⟩, k1, k2, k2', k3', k1'', k3'', k4'', k5''⟩ := dicts a b c d hab hac had hbc hbd hcd B
  -- the turns
  obtain ⟨x1, y1, w1, t1⟩ := at_turn' (n + 4) o WW T [] 1 0 1 1 a b [] (K a b) (K b a) (B a b) B [] (.inl rfl) rfl rfl o0 o1 (t ha hb) (t hb ha) none (by decide) (by decide) s11 (by decide) (by decide) (by decide) b1.symm l1
  obtain ⟨x2, y2, w2, t2⟩ := at_turn' (n + 4) o WW T D1 1 1 2 2 b c [] (K b c) (K c b) (B b c) B _ (.inr ⟨x1, y1, w1, rfl⟩) rfl rfl o1 o2 (t hb hc) (t hc hb) none (by decide) (by decide) s22 (by decide) (by decide) (Nat.le_trans n1 (by decide)) b2.symm l2
  obtain ⟨x3, y3, w3, t3⟩ := at_turn' (n + 4) o WW T D2 1 2 3 3 c d [] (K c d) (K d c) (B c d) B _ (.inr ⟨x2, y2, w2, rfl⟩) rfl rfl o2 o3 (t hc hd) (t hd hc) none (by decide) (by decide) s33 (by decide) (by decide) (Nat.le_trans n2 (by decide)) b3.symm l3
  obtain ⟨x4, y4, w4, t4⟩ := at_turn' (n + 4) o WW T D3 2 0 1 2 a c [b] (K a c) (K c a) (B a c) B _ (.inr ⟨x3, y3, w3, rfl⟩) rfl rfl o0 o2 (t ha hc) (t hc ha) (by intro z hz; obtain rfl := List.mem_singleton.mp hz; exact ⟨k1, k2⟩) (by decide) (by decide) s12 (fun z hz => by cases hz with | head => exact hb | tail _ h => cases h) (by simp) (Nat.le_trans n3 (by decide)) b4.symm l4
  obtain ⟨x5, y5, w5, t5⟩ := at_turn' (n + 4) o WW T D4 2 1 2 3 b d [c] (K b d) (K d b) (B b d) B _ (.inr ⟨x4, y4, w4, rfl⟩) rfl rfl o1 o3 (t hb hd) (t hd hb) (by intro z hz; obtain rfl := List.mem_singleton.mp hz; exact ⟨k2', k3'⟩) (by decide) (by decide) s23 (fun z hz => by cases hz with | head => exact hc | tail _ h => cases h) (by simp) (Nat.le_trans n4 (by decide)) b5.symm l5
  obtain ⟨x6, y6, w6, t6⟩ := at_turn' (n + 4) o WW T D5 3 0 1 3 a d [b, c] (K a d) (K d a) (B a d) B _ (.inr ⟨x5, y5, w5, rfl⟩) rfl rfl o0 o3 (t ha hd) (t hd ha) (by
    intro z hz
    simp only [List.mem_cons, List.not_mem_nil, or_false] at hz
    rcases hz with rfl | rfl
    · exact ⟨k1'', k5''⟩
    · exact ⟨k4'', k3''⟩) (by decide) (by decide) s13 (fun z hz => by cases hz with | head => exact hb | tail _ h => cases h with | head => exact hc | tail _ h => cases h) (by simp) (Nat.le_trans n5 (by decide)) b6.symm l6
  rw [d1] at t1; rw [d2] at t2; rw [d3] at t3; rw [d4] at t4; rw [d5] at t5; rw [d6] at t6
  clear d1 d2 d3 d4 d5 d6 k1 k2 k2' k3' k1'' k3'' k4'' k5'' n1 n2 n3 n4 n5 s11 s22 s33 s12 s23 s13 o0 o1 o2 o3 t b1 b2 b3 b4 b5 b6 l1 l2 l3 l4 l5 l6 none
  have f1 : (RR (n + 28)).ex (dF 15).sc (aE o WW T [] [(nm "size", .frz (.int 1))]) atF = some (.next, aE o WW T D3 (exI 1 2 [(nm "x", .frz (.str x3)), (nm "y", .frz (.str y3)), (nm "ways", .frz w3)])) := by
    refine (ex_S (n := n + 27)).trans (x_cons (x_for (n := n + 27) (ρ1 := aE o WW T [] [(nm "size", .frz (.int 1))]) (src := .rng 3) (l := [.int 0, .int 1, .int 2]) (by kernel_rfl) (by kernel_rfl) (by kernel_rfl) (by kernel_rfl) (by kernel_rfl) (by decide) ?_) x_nil)
    exact f_next (by kernel_rfl) t1 (f_next (ρ1 := aE o WW T D1 (exI 1 1 [(nm "x", .frz (.str x1)), (nm "y", .frz (.str y1)), (nm "ways", .frz w1)])) (by kernel_rfl) t2 (f_next (ρ1 := aE o WW T D2 (exI 1 2 [(nm "x", .frz (.str x2)), (nm "y", .frz (.str y2)), (nm "ways", .frz w2)])) (by kernel_rfl) t3 f_nil))
  have f2 : (RR (n + 28)).ex (dF 15).sc (aE o WW T D3 (exI 2 2 [(nm "x", .frz (.str x3)), (nm "y", .frz (.str y3)), (nm "ways", .frz w3)])) atF = some (.next, aE o WW T D5 (exI 2 1 [(nm "x", .frz (.str x5)), (nm "y", .frz (.str y5)), (nm "ways", .frz w5)])) := by
    refine (ex_S (n := n + 27)).trans (x_cons (x_for (n := n + 27) (ρ1 := aE o WW T D3 (exI 2 2 [(nm "x", .frz (.str x3)), (nm "y", .frz (.str y3)), (nm "ways", .frz w3)])) (src := .rng 2) (l := [.int 0, .int 1]) (by kernel_rfl) (by kernel_rfl) (by kernel_rfl) (by kernel_rfl) (by kernel_rfl) (by decide) ?_) x_nil)
    exact f_next (by kernel_rfl) t4 (f_next (ρ1 := aE o WW T D4 (exI 2 1 [(nm "x", .frz (.str x4)), (nm "y", .frz (.str y4)), (nm "ways", .frz w4)])) (by kernel_rfl) t5 f_nil)
  have f3 : (RR (n + 28)).ex (dF 15).sc (aE o WW T D5 (exI 3 1 [(nm "x", .frz (.str x5)), (nm "y", .frz (.str y5)), (nm "ways", .frz w5)])) atF = some (.next, aE o WW T D6 (exI 3 0 [(nm "x", .frz (.str x6)), (nm "y", .frz (.str y6)), (nm "ways", .frz w6)])) := by
    refine (ex_S (n := n + 27)).trans (x_cons (x_for (n := n + 27) (ρ1 := aE o WW T D5 (exI 3 1 [(nm "x", .frz (.str x5)), (nm "y", .frz (.str y5)), (nm "ways", .frz w5)])) (src := .rng 1) (l := [.int 0]) (by kernel_rfl) (by kernel_rfl) (by kernel_rfl) (by kernel_rfl) (by kernel_rfl) (by decide) ?_) x_nil)
    exact f_next (by kernel_rfl) t6 f_nil
  refine call_frz (n := n + 29) (d := dF 15) (vs := [.str o, WW]) (fl := .ret (.bool true)) (ρ' := aE o WW T D6 (exI 3 0 [(nm "x", .frz (.str x6)), (nm "y", .frz (.str y6)), (nm "ways", .frz w6)])) (by kernel_rfl) (by kernel_rfl) ?_ rfl
  refine (ex_S (n := n + 28)).trans ?_
  refine x_cons (x_fresh (n := n + 28) (ρ1 := ⟨[(nm "order", .frz (.str o)), (nm "weights", .frz WW)], []⟩) (v := .dict T) (ρ' := ⟨[(nm "order", .frz (.str o)), (nm "weights", .frz WW), (nm "turn", .own (.dict T))], []⟩) rfl (by kernel_rfl) te (by kernel_rfl)) ?_
  refine x_cons (x_fresh (n := n + 28) (ρ1 := ⟨[(nm "order", .frz (.str o)), (nm "weights", .frz WW), (nm "turn", .own (.dict T))], []⟩) (v := .dict []) (ρ' := aE o WW T [] []) rfl (by kernel_rfl) (by kernel_rfl) (by kernel_rfl)) ?_
  refine x_cons (x_for (n := n + 28) (ρ1 := aE o WW T [] []) (src := .tup [.int 1, .int 2, .int 3]) (l := [.int 1, .int 2, .int 3]) (by kernel_rfl) (by kernel_rfl) (by kernel_rfl) (by kernel_rfl) (by kernel_rfl) (by decide) (f_next (by kernel_rfl) f1 (f_next (by kernel_rfl) f2 (f_next (by kernel_rfl) f3 f_nil)))) ?_
  exact x_out (by intro h; cases h) (x_ret (n := n + 28) (by kernel_rfl) (by kernel_rfl))
end Mine.P

end

/-! part Att3 -/
section
set_option maxRecDepth 100000
set_option autoImplicit false
set_option linter.unusedVariables false
set_option linter.unusedSimpArgs false
namespace Mine.P
open PySem

/-! what is attained -/

theorem lock_small : ∀ (ps : List (Nat × Nat)) (P : Rel), (∀ p ∈ ps, p ∈ p12) → (∀ u v, P u v = true → u = v ∨ (u < 4 ∧ v < 4)) → ∀ u v, lockAll P ps u v = true → u = v ∨ (u < 4 ∧ v < 4)
  | [], P, _, h => h
  | p :: ps, P, hp, h => by
    refine lock_small ps (lock P p) (fun q hq => hp q (List.mem_cons_of_mem _ hq)) fun u v huv => ?_
    obtain ⟨hx, hy, _⟩ := p12_lt (hp p List.mem_cons_self)
    unfold lock at huv
    split at huv
    · exact h u v huv
    · simp only [Bool.or_eq_true, Bool.and_eq_true] at huv
      rcases huv with q | ⟨q1, q2⟩
      · exact h u v q
      · have := h _ _ q1
        have := h _ _ q2
        lia

/-- the best ways by places -/
noncomputable def Bp (K : Nat → Nat → Int) : Nat → Nat → Int
  | 0, 2 => min (K 0 2) (max (K 0 1) (K 1 2))
  | 1, 3 => min (K 1 3) (max (K 1 2) (K 2 3))
  | 0, 3 => min (min (K 0 3) (max (K 0 1) (min (K 1 3) (max (K 1 2) (K 2 3))))) (max (min (K 0 2) (max (K 0 1) (K 1 2))) (K 2 3))
  | i, j => K i j
theorem Bp_le (K : Nat → Nat → Int) : ∀ i, i < 4 → ∀ j, j < 4 → Bp K i j ≤ K i j := by
  refine lt4 ?_ ?_ ?_ ?_ <;> refine lt4 ?_ ?_ ?_ ?_ <;> first | exact Int.le_refl _ | exact Int.min_le_left _ _ | exact Int.le_trans (Int.min_le_left _ _) (Int.min_le_left _ _)
theorem Bp_tri (K : Nat → Nat → Int) : ∀ i, i < 4 → ∀ k, k < 4 → ∀ j, j < 4 → i < k → k < j → Bp K i j ≤ max (Bp K i k) (Bp K k j) := by
  refine lt4 ?_ ?_ ?_ ?_ <;> refine lt4 ?_ ?_ ?_ ?_ <;> refine lt4 ?_ ?_ ?_ ?_ <;> intro h1 h2 <;> first | exact absurd h1 (by decide) | exact absurd h2 (by decide) | exact Int.min_le_right _ _ | exact Int.le_trans (Int.min_le_left _ _) (Int.min_le_right _ _)
/-- by names -/
noncomputable def Bf (K : Nat → Nat → Int) (l : List Nat) : Nat → Nat → Int := fun u v => Bp (fun i j => K (l.getD i 0) (l.getD j 0)) (posn l u) (posn l v)

theorem pos_perm : ∀ a, a < 4 → ∀ b, b < 4 → ∀ c, c < 4 → ∀ d, d < 4 → [a, b, c, d] ∈ perms → posn [a, b, c, d] a = 0 ∧ posn [a, b, c, d] b = 1 ∧ posn [a, b, c, d] c = 2 ∧ posn [a, b, c, d] d = 3 := by
  have h : ∀ l ∈ perms, posn l (l.getD 0 0) = 0 ∧ posn l (l.getD 1 0) = 1 ∧ posn l (l.getD 2 0) = 2 ∧ posn l (l.getD 3 0) = 3 := by decide +kernel
  exact fun a _ b _ c _ d _ hl => h _ hl
theorem perm_abcd : ∀ l ∈ perms, ∃ a, a < 4 ∧ ∃ b, b < 4 ∧ ∃ c, c < 4 ∧ ∃ d, d < 4 ∧ l = [a, b, c, d] ∧ a ≠ b ∧ a ≠ c ∧ a ≠ d ∧ b ≠ c ∧ b ≠ d ∧ c ≠ d := by decide +kernel

theorem pos_nth : ∀ l ∈ perms, ∀ u, u < 4 → posn l u < 4 ∧ l.getD (posn l u) 0 = u := by decide +kernel

theorem attained_B (K : Nat → Nat → Int) (ps : List (Nat × Nat)) (hps : ∀ p ∈ ps, p ∈ p12) (hall : ∀ p ∈ p12, p ∈ ps) (hsort : ps.Pairwise fun p q => K p.1 p.2 < K q.1 q.2) (l : List Nat)
    (hl : l ∈ perms) (hT : ∀ u, u < 4 → ∀ v, v < 4 → lockAll P0 ps u v = relS l u v) : ∀ u, u < 4 → ∀ v, v < 4 → u ≠ v → posn l u ≤ posn l v → Bf K l u v < K v u := by
  have hle : ∀ u v, u ≠ v → lockAll P0 ps u v = true → u < 4 ∧ v < 4 ∧ posn l u < posn l v := by
    intro u v huv h
    have h4 : u < 4 ∧ v < 4 := (lock_small ps P0 hps (fun u v h => .inl (eq_of_beq h)) u v h).resolve_left huv
    rw [hT u h4.1 v h4.2] at h
    exact ⟨h4.1, h4.2, Nat.lt_of_le_of_ne (of_decide_eq_true h) fun e => huv (posn_inj hl u v e)⟩
  have h1 : ∀ u v, u ≠ v → lockAll P0 ps u v = true → Bf K l u v ≤ K u v := by
    intro u v huv h
    obtain ⟨hu, hv, _⟩ := hle u v huv h
    obtain ⟨a, b⟩ := pos_nth l hl u hu
    obtain ⟨c, d⟩ := pos_nth l hl v hv
    have := Bp_le (fun i j => K (l.getD i 0) (l.getD j 0)) _ a _ c
    rw [b, d] at this
    exact this
  have h2 : ∀ u z v, u ≠ z → z ≠ v → lockAll P0 ps u z = true → lockAll P0 ps z v = true → Bf K l u v ≤ max (Bf K l u z) (Bf K l z v) := by
    intro u z v huz hzv q1 q2
    obtain ⟨hu, hz, p1⟩ := hle u z huz q1
    obtain ⟨_, hv, p2⟩ := hle z v hzv q2
    exact Bp_tri _ _ (pos_nth l hl u hu).1 _ (pos_nth l hl z hz).1 _ (pos_nth l hl v hv).1 p1 p2
  clear hle
  intro u hu v hv huv hp
  have hmem : (v, u) ∈ p12 := by
    have : ∀ v, v < 4 → ∀ u, u < 4 → (u = v ∨ (v, u) ∈ p12) := by decide
    exact (this v hv u hu).resolve_left huv
  obtain ⟨A, Bq, rfl⟩ := List.append_of_mem (hall _ hmem)
  refine attained A Bq (v, u) (Ne.symm huv) (fun q hq => ⟨(p12_lt (hps q (List.mem_append.mpr (.inl hq)))).2.2, ?_⟩) h1 h2 ?_
  · exact (List.pairwise_append.mp hsort).2.2 q hq _ List.mem_cons_self
  · rw [hT u hu v hv]
    exact decide_eq_true hp

theorem attained_ok (n : Nat) (W : Nat → Nat → Int) (ps : List (Nat × Nat)) (hps : ∀ p ∈ ps, p ∈ p12) (hall : ∀ p ∈ p12, p ∈ ps) (hsort : ps.Pairwise fun p q => keyK W p.1 p.2 < keyK W q.1 q.2) (l : List Nat) (hl : l ∈ perms)
    (hT : ∀ u, u < 4 → ∀ v, v < 4 → lockAll P0 ps u v = relS l u v) : (RR (n + 30)).call (nm "_law_attained") [.frz (.str (cs l)), .frz (.dict (wD W))] = some (.bool true, none) := by
  have h := attained_B (keyK W) ps hps hall hsort l hl hT
  obtain ⟨a, ha, b, hb, c, hc, d, hd, rfl, hab, hac, had, hbc, hbd, hcd⟩ := perm_abcd l hl
  clear hT hsort hall hps
  obtain ⟨pa, pb, pc, pd⟩ := pos_perm a ha b hb c hc d hd hl
  have e : ∀ u v, Bf (keyK W) [a, b, c, d] u v = Bp (fun i j => keyK W ([a, b, c, d].getD i 0) ([a, b, c, d].getD j 0)) (posn [a, b, c, d] u) (posn [a, b, c, d] v) := fun _ _ => rfl
  refine attained_fn n a b c d ha hb hc hd hab hac had hbc hbd hcd W (Bf (keyK W) [a, b, c, d]) ?_ ?_ ?_ ?_ ?_ ?_ (h a ha b hb hab (by rw [pa, pb]; decide)) (h b hb c hc hbc (by rw [pb, pc]; decide)) (h c hc d hd hcd (by rw [pc, pd]; decide)) (h a ha c hc hac (by rw [pa, pc]; decide)) (h b hb d hd hbd (by rw [pb, pd]; decide)) (h a ha d hd had (by rw [pa, pd]; decide)) <;>
    (simp only [e, pa, pb, pc, pd]; rfl)
end Mine.P

end

/-! part Vot1 -/
section
set_option maxRecDepth 100000
set_option autoImplicit false
set_option linter.unusedVariables false
namespace Mine.P
open PySem

/-! _law_orders and _law_votes -/

noncomputable def ordersL : List (List Nat) := [[3, 2, 1, 0], [2, 3, 1, 0], [2, 1, 3, 0], [2, 1, 0, 3], [3, 1, 2, 0], [1, 3, 2, 0], [1, 2, 3, 0], [1, 2, 0, 3], [3, 1, 0, 2], [1, 3, 0, 2], [1, 0, 3, 2], [1, 0, 2, 3], [3, 2, 0, 1], [2, 3, 0, 1], [2, 0, 3, 1], [2, 0, 1, 3], [3, 0, 2, 1], [0, 3, 2, 1], [0, 2, 3, 1], [0, 2, 1, 3], [3, 0, 1, 2], [0, 3, 1, 2], [0, 1, 3, 2], [0, 1, 2, 3]]
theorem orders_perms : ∀ l ∈ ordersL, l ∈ perms := by decide +kernel
noncomputable def OO : AV := .list (ordersL.map fun l => .str (cs l))
theorem orders_fn (n : Nat) : (RR (n + 20)).call (nm "_law_orders") [] = some (OO, none) := by kernel_rfl

/-- the text and the weight of a vote -/
noncomputable def tx (k : Nat) : List Nat := (ordersL.getD (k % 24) []).take (4 - k / 24 % 4)
noncomputable def wt (k : Nat) : Int := 1 + (k / 96 : Nat)
noncomputable def texts : List (List Nat) := [[0], [1], [2], [3], [0, 1], [0, 2], [0, 3], [1, 0], [1, 2], [1, 3], [2, 0], [2, 1], [2, 3], [3, 0], [3, 1], [3, 2], [0, 1, 2], [0, 1, 3], [0, 2, 1], [0, 2, 3], [0, 3, 1], [0, 3, 2], [1, 0, 2], [1, 0, 3], [1, 2, 0], [1, 2, 3], [1, 3, 0], [1, 3, 2], [2, 0, 1], [2, 0, 3], [2, 1, 0], [2, 1, 3], [2, 3, 0], [2, 3, 1], [3, 0, 1], [3, 0, 2], [3, 1, 0], [3, 1, 2], [3, 2, 0], [3, 2, 1], [0, 1, 2, 3], [0, 1, 3, 2], [0, 2, 1, 3], [0, 2, 3, 1], [0, 3, 1, 2], [0, 3, 2, 1], [1, 0, 2, 3], [1, 0, 3, 2], [1, 2, 0, 3], [1, 2, 3, 0], [1, 3, 0, 2], [1, 3, 2, 0], [2, 0, 1, 3], [2, 0, 3, 1], [2, 1, 0, 3], [2, 1, 3, 0], [2, 3, 0, 1], [2, 3, 1, 0], [3, 0, 1, 2], [3, 0, 2, 1], [3, 1, 0, 2], [3, 1, 2, 0], [3, 2, 0, 1], [3, 2, 1, 0]]
theorem tx_mem (k : Nat) : tx k ∈ texts := by
  have h : ∀ i, i < 24 → ∀ j, j < 4 → (ordersL.getD i []).take (4 - j) ∈ texts := by decide +kernel
  exact h (k % 24) (by lia) (k / 24 % 4) (by lia)
noncomputable def voteA (v : List Nat × Int) : AV := .tup [.str (cs v.1), .int v.2]

noncomputable def vtE : PySem.Expr := match (dF 10).body with | [_, .For _ _ [_, .Expr (.Call _ [e] _ _) _] _ _, _] => e | _ => .Constant .none 0 ⟨0, 0, 0, 0⟩
noncomputable def vE (scr : AV) (V : List AV) (ex : List (Str × Var)) : R := ⟨(nm "script", .frz scr) :: (nm "orders", .frz OO) :: (nm "votes", .own (.list V)) :: ex, []⟩
noncomputable def vX (x v : Int) : List (Str × Var) := [(nm "x", .frz (.int x)), (nm "v", .frz (.int v))]
theorem vote_ev (n : Nat) (scr : AV) (V : List AV) (x : Int) (k : Nat) (hk : k < 480) : (RR (n + 20)).ev ⟨(dF 10).sc, none⟩ (vE scr V (vX x k)) vtE = some ⟨voteA (tx k, wt k), false⟩ :=
  of_map (f := fun k : Nat => (RR (n + 20)).ev ⟨(dF 10).sc, none⟩ (vE scr V (vX x k)) vtE) (g := fun k => some ⟨voteA (tx k, wt k), false⟩) (l := List.range 480) (by kernel_rfl) k (by simpa using hk)
end Mine.P

end

/-! part Vot2 -/
section
set_option maxRecDepth 100000
set_option autoImplicit false
set_option linter.unusedVariables false
namespace Mine.P
open PySem

noncomputable def kOf (x : Int) : Nat := (Int.fmod x 480).toNat
theorem kOf_lt (x : Int) : kOf x < 480 ∧ Int.fmod x 480 = (kOf x : Int) := by
  have h1 := Int.fmod_nonneg_of_pos x (show (0 : Int) < 480 by decide)
  have h2 := Int.fmod_lt_of_pos x (show (0 : Int) < 480 by decide)
  unfold kOf
  lia
noncomputable def voteOf (x : Int) : List Nat × Int := (tx (kOf x), wt (kOf x))

noncomputable def vtB : List Stmt := match (dF 10).body with | [_, .For _ _ b _ _, _] => b | _ => []
noncomputable def vtT : PySem.Expr := match (dF 10).body with | [_, .For t _ _ _ _, _] => t | _ => .Constant .none 0 ⟨0, 0, 0, 0⟩

theorem vote_turn (n : Nat) (scr : AV) (V : List AV) (hV : V.length ≤ 4096) (x : Int) (ex : List (Str × Var)) (hex : ex = [] ∨ ∃ x v, ex = vX x v) :
    ∃ ρ1, assignA (dF 10).sc vtT (.int x) (vE scr V ex) = some ρ1 ∧ (RR (n + 23)).ex (dF 10).sc ρ1 vtB = some (.next, vE scr (V ++ [voteA (voteOf x)]) (vX x (kOf x))) := by
  obtain ⟨hk, he⟩ := kOf_lt x
  have hmod : binA .Mod (.int x) (.int 480) = some (.int (kOf x)) := by
    rw [b_mod, if_pos (by decide), he]
  have hv := vote_ev (n + 2) scr V x (kOf x) hk
  have tail : exsN (n + 22) (dF 10).sc (vE scr V (vX x (kOf x))) (vtB.drop 1) = some (.next, vE scr (V ++ [voteA (voteOf x)]) (vX x (kOf x))) := by
    unfold voteOf
    generalize voteA (tx (kOf x), wt (kOf x)) = vv at *
    exact x_cons (x_append (n := n + 22) (ρ1 := vE scr V (vX x (kOf x))) (l := V) (by kernel_rfl) (by kernel_rfl) (by kernel_rfl) hv (by kernel_rfl) hV (by kernel_rfl)) x_nil
  rcases hex with rfl | ⟨x', v', rfl⟩
  · refine ⟨vE scr V [(nm "x", .frz (.int x))], by kernel_rfl, (ex_S (n := n + 22)).trans ?_⟩
    exact x_cons (x_name (n := n + 22) (ρ1 := vE scr V [(nm "x", .frz (.int x))]) rfl (by kernel_rfl) (e_bin (n := n + 21) (A := ⟨.int x, false⟩) (B := ⟨.int 480, false⟩) (by kernel_rfl) (by kernel_rfl) hmod) (by kernel_rfl)) tail
  · refine ⟨vE scr V (vX x v'), by kernel_rfl, (ex_S (n := n + 22)).trans ?_⟩
    exact x_cons (x_name (n := n + 22) (ρ1 := vE scr V (vX x v')) rfl (by kernel_rfl) (e_bin (n := n + 21) (A := ⟨.int x, false⟩) (B := ⟨.int 480, false⟩) (by kernel_rfl) (by kernel_rfl) hmod) (by kernel_rfl)) tail

theorem vote_loop (n : Nat) (scr : AV) : ∀ (xs : List Int) (V : List AV) (ex : List (Str × Var)), V.length + xs.length ≤ 4096 → (ex = [] ∨ ∃ x v, ex = vX x v) →
    ∃ ex', forA (RR (n + 23)) (dF 10).sc vtT vtB (xs.map .int) (vE scr V ex) = some (.next, vE scr (V ++ xs.map fun x => voteA (voteOf x)) ex') ∧ (ex' = [] ∨ ∃ x v, ex' = vX x v)
  | [], V, ex, hl, hex => ⟨ex, by rw [List.map_nil, List.map_nil, List.append_nil]; exact f_nil, hex⟩
  | x :: xs, V, ex, hl, hex => by
    simp only [List.length_cons] at hl
    obtain ⟨ρ1, t1, t2⟩ := vote_turn n scr V (by lia) x ex hex
    obtain ⟨ex', i1, i2⟩ := vote_loop n scr xs (V ++ [voteA (voteOf x)]) _ (by simp; lia) (.inr ⟨_, _, rfl⟩)
    refine ⟨ex', ?_, i2⟩
    rw [List.map_cons, List.map_cons]
    rw [List.append_assoc] at i1
    exact f_next t1 t2 i1

theorem slice_list (l : List AV) (h : Int) (hl : l.length ≤ 4096) : sliceA (.list l) none (some h) = some (.list (l.take h.toNat)) := tif ⟨rfl, hl⟩ rfl
theorem e_sliceN {n : Nat} {cx : CX} {ρ : R} {e hi : PySem.Expr} {p q : Pos} {A : AR} {h : Int} {o2 : Bool} {v : AV} (h1 : (RR n).ev cx ρ e = some A) (h3 : (RR n).ev cx ρ hi = some ⟨.int h, o2⟩) (s2 : small h = true) (hv : sliceA A.v none (some h) = some v) :
    (RR (n + 1)).ev cx ρ (.Subscript e (.Slice none (some hi) none p) q) = some ⟨v, false⟩ := by
  show evSub (RR n) cx ρ e (.Slice none (some hi) none p) = _
  exact someI (a := (none, some hi)) rfl (bndI h1 (bndI (bndI rfl rfl) (bndI (bndI (mpdI h3) (bound_of s2)) (mpdI hv))))

noncomputable def votesL (l : List Int) : List (List Nat × Int) := ([215, 102, 132] ++ l.take 3).map voteOf

theorem votes_fn (n : Nat) (l : List Int) (hl : l.length ≤ 63) : (RR (n + 28)).call (nm "_law_votes") [.frz (.list (l.map .int)), .frz OO] = some (.list ((votesL l).map voteA), none) := by
  have hll : (l.map AV.int).length ≤ 4096 := by rw [List.length_map]; lia
  obtain ⟨ex', h1, h2⟩ := vote_loop (n + 3) (.list (l.map .int)) ([215, 102, 132] ++ l.take 3) [] [] (by simp; lia) (.inl rfl)
  have hs : sliceA (.list (l.map .int)) none (some 3) = some (.list ((l.take 3).map .int)) := by
    rw [slice_list _ _ hll, List.map_take]
    rfl
  have hadd : binA .Add (.list ([215, 102, 132].map .int)) (.list ((l.take 3).map .int)) = some (.list (([215, 102, 132] ++ l.take 3).map .int)) := by
    rw [b_ladd, if_pos (by simp; lia), List.map_append]
  have hV : (votesL l).map voteA = ([215, 102, 132] ++ l.take 3).map fun x => voteA (voteOf x) := by
    unfold votesL; rw [List.map_map]; rfl
  have hlen : (([215, 102, 132] ++ l.take 3).map AV.int).length ≤ 4096 := by simp; lia
  rw [hV]
  rw [List.nil_append] at h1
  generalize (([215, 102, 132] ++ l.take 3).map fun x => voteA (voteOf x)) = V at *
  generalize ([215, 102, 132] ++ l.take 3).map AV.int = xs at *
  generalize (l.take 3).map AV.int = l3 at *
  generalize l.map AV.int = scr at *
  have fin : ∃ ρ', exsN (n + 26) (dF 10).sc (vE (.list scr) V ex') ((dF 10).body.drop 2) = some (.ret (.list V), ρ') := by
    rcases h2 with rfl | ⟨x, v, rfl⟩
    · exact ⟨_, x_out (by intro h; cases h) (x_ret (n := n + 26) (ρ1 := ⟨(nm "script", .frz (.list scr)) :: (nm "orders", .frz OO) :: (nm "votes", .frz (.list V)) :: [], []⟩) (by kernel_rfl) (by kernel_rfl))⟩
    · exact ⟨_, x_out (by intro h; cases h) (x_ret (n := n + 26) (ρ1 := ⟨(nm "script", .frz (.list scr)) :: (nm "orders", .frz OO) :: (nm "votes", .frz (.list V)) :: vX x v, []⟩) (by kernel_rfl) (by kernel_rfl))⟩
  obtain ⟨ρ', fin⟩ := fin
  refine call_frz (n := n + 27) (d := dF 10) (vs := [.list scr, OO]) (fl := .ret (.list V)) (ρ' := ρ') (by kernel_rfl) (by kernel_rfl) ?_ rfl
  refine (ex_S (n := n + 26)).trans ?_
  refine x_cons (ρ1 := vE (.list scr) [] []) (x_fresh (n := n + 26) (ρ1 := ⟨[(nm "script", .frz (.list scr)), (nm "orders", .frz OO)], []⟩) (v := .list []) rfl (by kernel_rfl) (by kernel_rfl) (by kernel_rfl)) ?_
  exact x_cons (x_for (n := n + 26) (ρ1 := vE (.list scr) [] []) (src := .list xs) (l := xs) (by kernel_rfl) (by kernel_rfl) (by kernel_rfl) (e_bin (n := n + 25) (A := ⟨.list ([215, 102, 132].map .int), false⟩) (B := ⟨.list l3, false⟩) (by kernel_rfl) (e_sliceN (n := n + 24) (A := ⟨.list scr, false⟩) (h := 3) (o2 := false) (by kernel_rfl) (by kernel_rfl) (by decide) hs) hadd) (by kernel_rfl) hlen h1) fin
end Mine.P

end

/-! part Wgt1 -/
section
set_option maxRecDepth 100000
set_option autoImplicit false
set_option linter.unusedVariables false
namespace Mine.P
open PySem

/-! _law_weights -/

noncomputable def fnd (t : List Nat) (x : Nat) : Int := if x ∈ t then (t.idxOf x : Nat) else -1
noncomputable def aheadB (t : List Nat) (x y : Nat) : Bool := decide (-1 < fnd t x) && decide (fnd t x < fnd t y)

noncomputable def tx4 : List (List Nat × Nat) := texts.flatMap fun t => r4.map fun x => (t, x)
theorem mem_tx4 {t : List Nat} {x : Nat} (ht : t ∈ texts) (hx : x < 4) : (t, x) ∈ tx4 :=
  List.mem_flatMap.mpr ⟨t, ht, List.mem_map.mpr ⟨x, mem_r4.mpr hx, rfl⟩⟩
theorem find_ok {t : List Nat} {x : Nat} (ht : t ∈ texts) (hx : x < 4) : methA (nm "find") (.str (cs t)) [.str (cs [x])] = some (.int (fnd t x)) :=
  of_map (f := fun p => methA (nm "find") (.str (cs p.1)) [.str (cs [p.2])]) (g := fun p : List Nat × Nat => some (.int (fnd p.1 p.2))) (l := tx4) (by kernel_rfl) (t, x) (mem_tx4 ht hx)

structure VotesOk (V : List (List Nat × Int)) : Prop where
  len : V.length ≤ 6
  one : ∀ v ∈ V, v.1 ∈ texts ∧ 1 ≤ v.2 ∧ v.2 ≤ 5
theorem votesL_ok (l : List Int) : VotesOk (votesL l) := by
  refine ⟨by simp [votesL]; lia, fun v hv => ?_⟩
  obtain ⟨x, hx, rfl⟩ := List.mem_map.mp hv
  have := (kOf_lt x).1
  refine ⟨tx_mem _, ?_⟩
  dsimp only [voteOf, wt]
  lia

noncomputable def dec (s : Str) : List Nat := s.cps.toList.map (· - 97)
theorem dec_cs (t : List Nat) : dec (cs t) = t := by
  simp [dec, cs, Function.comp_def]
/-- the weights of the votes that pass -/
noncomputable def gV (b : List Nat → Bool) : AV → Option AV
  | .tup [.str s, .int w] => if b (dec s) then some (.int w) else none
  | _ => none
noncomputable def wL (b : List Nat → Bool) (V : List (List Nat × Int)) : List Int := (V.filter fun v => b v.1).map (·.2)
theorem gV_map (b : List Nat → Bool) : ∀ (V : List (List Nat × Int)), (V.map voteA).filterMap (gV b) = (wL b V).map .int
  | [] => rfl
  | (t, w) :: V => by
    rw [List.map_cons, List.filterMap_cons, gV_map b V]
    have : gV b (voteA (t, w)) = if b t then some (.int w) else none := by
      dsimp only [voteA, gV]
      rw [dec_cs]
    rw [this]
    unfold wL
    by_cases h : b t = true
    · simp [h]
    · simp [h]

theorem asInts_map : ∀ (l : List Int), asInts (l.map .int) = some l
  | [] => rfl
  | i :: l => bndI rfl (mpdI (asInts_map l))
theorem sum_built (l : List Int) (h : ∀ w ∈ l, 1 ≤ w ∧ w ≤ 5) (hl : l.length ≤ 4096) (o : Bool) : builtinA (nm "sum") [⟨.list (l.map .int), o⟩] = some (.int l.sum) := by
  have hs : l.all small = true := by
    rw [List.all_eq_true]
    intro w hw
    have := h w hw
    exact small_of (by lia) (by lia)
  have h1 : sumA (.list (l.map .int)) = some (.int l.sum) := bndI (asInts_map l) (ifsI ⟨hs, hl⟩ rfl)
  exact eif (by decide) (eif (by decide) (bndI (a := ⟨.list (l.map .int), o⟩) rfl (eif (by decide) (eif (by decide) (tif rfl h1)))))

theorem t_chain {n : Nat} {cx : CX} {ρ : R} {a e1 e2 : PySem.Expr} {o1 o2 : CmpOp} {p : Pos} {A B C : AR} {c1 c2 : Bool} (hs : notSet e2 = true) (h1 : (RR n).ev cx ρ a = some A) (h2 : (RR n).ev cx ρ e1 = some B) (h3 : cmpA o1 A.v B.v = some c1) (h4 : (RR n).ev cx ρ e2 = some C) (h5 : cmpA o2 B.v C.v = some c2) :
    (RR (n + 1)).ts cx ρ (.Compare a [o1, o2] [e1, e2] p) = some (c1 && c2) := by
  show tsCmp (RR n) cx ρ a [o1, o2] [e1, e2] = _
  refine noneI rfl (bndI (a := (o1, o2)) rfl (bndI (a := (e1, e2)) rfl (ifsI hs (bndI h1 (bndI h2 (bndI h3 ?_))))))
  cases c1 with
  | false => rfl
  | true => exact tif rfl (bndI h4 h5)

noncomputable def wgt (V : List (List Nat × Int)) (x y : Nat) : Int := (wL (fun t => aheadB t x y) V).sum

noncomputable def gE (V : List AV) (D : List (Str × AV)) (ex : List (Str × Var)) : R := ⟨(nm "votes", .frz (.list V)) :: (nm "weights", .own (.dict D)) :: ex, []⟩
noncomputable def wgF : List Stmt := match (dF 14).body with | [_, .For _ _ b _ _, _] => b | _ => []
noncomputable def wgB : List Stmt := match wgF with | [.For _ _ b _ _] => b | _ => []
noncomputable def wgT : PySem.Expr := match (dF 14).body with | [_, .For t _ _ _ _, _] => t | _ => .Constant .none 0 ⟨0, 0, 0, 0⟩
noncomputable def wgU : PySem.Expr := match wgF with | [.For t _ _ _ _] => t | _ => .Constant .none 0 ⟨0, 0, 0, 0⟩

theorem wgt_turn (n : Nat) (V : List (List Nat × Int)) (hV : VotesOk V) (D : List (Str × AV)) (hD : D.length ≤ 4096) (x y : Nat) (hx : x < 4) (hy : y < 4) :
    (RR (n + 20)).ex (dF 14).sc (gE (V.map voteA) D [(nm "x", .frz (.str (cs [x]))), (nm "y", .frz (.str (cs [y])))]) wgB = some (.next, gE (V.map voteA) (put D (cs [x, y]) (.int (wgt V x y))) [(nm "x", .frz (.str (cs [x]))), (nm "y", .frz (.str (cs [y])))]) := by
  have hlen : (V.map voteA).length ≤ 4096 := by rw [List.length_map]; have := hV.len; lia
  have hst : storeA (.dict D) (.str (cs [x, y])) (.int (wgt V x y)) = some (.dict (put D (cs [x, y]) (.int (wgt V x y)))) := st_dict hD
  have hin : ∀ w ∈ wL (fun t => aheadB t x y) V, 1 ≤ w ∧ w ≤ 5 := by
    intro w hw
    obtain ⟨v, hv, rfl⟩ := List.mem_map.mp hw
    exact (hV.one v (List.mem_filter.mp hv).1).2
  have hwl : (wL (fun t => aheadB t x y) V).length ≤ 4096 := by
    have := hV.len
    refine Nat.le_trans (by unfold wL; rw [List.length_map]; exact List.length_filter_le _ _) (show V.length ≤ 4096 by lia)
  have hsum := sum_built _ hin hwl false
  rw [← gV_map] at hsum
  refine (ex_S (n := n + 19)).trans (x_cons (x_store (n := n + 19) (ρ1 := gE (V.map voteA) D [(nm "x", .frz (.str (cs [x]))), (nm "y", .frz (.str (cs [y])))]) (I := ⟨.str (cs [x, y]), false⟩) (v := .int (wgt V x y)) (c := .dict D) (by kernel_rfl) (by kernel_rfl) ?_
    (e_bin (n := n + 18) (A := ⟨.str (cs [x]), false⟩) (B := ⟨.str (cs [y]), false⟩) (by kernel_rfl) (by kernel_rfl) (add_cs x y)) (by kernel_rfl) hst (by kernel_rfl)) x_nil)
  refine e_built (n := n + 18) (vs := [⟨.list ((V.map voteA).filterMap (gV fun t => aheadB t x y)), false⟩]) (by kernel_rfl) (by kernel_rfl) (evrs_cons rfl ?_ evrs_nil) hsum
  refine e_lc (n := n + 17) (src := .list (V.map voteA)) (by kernel_rfl) (by kernel_rfl) (by kernel_rfl) hlen rfl fun v hv => ?_
  obtain ⟨⟨t, w⟩, hm, rfl⟩ := List.mem_map.mp hv
  have ht := (hV.one _ hm).1
  have hfx := find_ok ht hx
  have hfy := find_ok ht hy
  have hg : gV (fun t => aheadB t x y) (voteA (t, w)) = if aheadB t x y then some (.int w) else none := by
    dsimp only [voteA, gV]
    rw [dec_cs]
  rw [hg]
  generalize V.map voteA = VV at *
  dsimp only at ht
  have test : (RR (n + 17)).ts ⟨(dF 14).sc, some (match wgB with | [.Assign _ (.Call _ [.ListComp _ _ cs _] _ _) _] => cs | _ => (dF 14).sc)⟩ ⟨(gE VV D [(nm "x", .frz (.str (cs [x]))), (nm "y", .frz (.str (cs [y])))]).vars, [(nm "weight", .int w), (nm "text", .str (cs t))]⟩ (match wgB with | [.Assign _ (.Call _ [.ListComp _ [⟨_, _, [i], _⟩] _ _] _ _) _] => i | _ => .Constant .none 0 ⟨0, 0, 0, 0⟩) = some (aheadB t x y) := by
    refine t_chain (n := n + 16) (A := ⟨.int (-1), false⟩) (B := ⟨.int (fnd t x), false⟩) (C := ⟨.int (fnd t y), false⟩) rfl (by kernel_rfl) ?_ rfl ?_ rfl
    · exact e_meth (n := n + 15) (A := ⟨.str (cs t), false⟩) (vs := [.str (cs [x])]) (by kernel_rfl) (by kernel_rfl) rfl (evs_cons rfl (by kernel_rfl) evs_nil) hfx rfl
    · exact e_meth (n := n + 15) (A := ⟨.str (cs t), false⟩) (vs := [.str (cs [y])]) (by kernel_rfl) (by kernel_rfl) rfl (evs_cons rfl (by kernel_rfl) evs_nil) hfy rfl
  cases hb : aheadB t x y with
  | true => rw [hb] at test; rw [if_pos rfl]; exact step_yes (ρ1 := ⟨(gE VV D [(nm "x", .frz (.str (cs [x]))), (nm "y", .frz (.str (cs [y])))]).vars, [(nm "weight", .int w), (nm "text", .str (cs t))]⟩) (by kernel_rfl) (ts_one test) (by kernel_rfl)
  | false => rw [hb] at test; rw [if_neg (by decide)]; exact step_no (ρ1 := ⟨(gE VV D [(nm "x", .frz (.str (cs [x]))), (nm "y", .frz (.str (cs [y])))]).vars, [(nm "weight", .int w), (nm "text", .str (cs t))]⟩) (by kernel_rfl) (ts_one test)

noncomputable def put4 (W : Nat → Nat → Int) (D : List (Str × AV)) (x : Nat) : List (Str × AV) := [0, 1, 2, 3].foldl (fun D y => put D (cs [x, y]) (.int (W x y))) D
theorem put4_len (W : Nat → Nat → Int) (D : List (Str × AV)) (x : Nat) : (put4 W D x).length ≤ D.length + 4 := by
  unfold put4
  dsimp only [List.foldl_cons, List.foldl_nil]
  have m1 := putL_len (cs [x, 0]) (AV.int (W x 0)) D
  generalize put D (cs [x, 0]) (AV.int (W x 0)) = D1 at *
  have m2 := putL_len (cs [x, 1]) (AV.int (W x 1)) D1
  generalize put D1 (cs [x, 1]) (AV.int (W x 1)) = D2 at *
  have m3 := putL_len (cs [x, 2]) (AV.int (W x 2)) D2
  generalize put D2 (cs [x, 2]) (AV.int (W x 2)) = D3 at *
  have m4 := putL_len (cs [x, 3]) (AV.int (W x 3)) D3
  lia

theorem wgt_row (n : Nat) (V : List (List Nat × Int)) (hV : VotesOk V) (D : List (Str × AV)) (hD : D.length ≤ 4000) (x : Nat) (hx : x < 4) (ex : List (Str × Var)) (hex : ex = [] ∨ ∃ y, ex = [(nm "y", .frz (.str y))]) :
    (RR (n + 21)).ex (dF 14).sc (gE (V.map voteA) D ((nm "x", .frz (.str (cs [x]))) :: ex)) wgF = some (.next, gE (V.map voteA) (put4 (wgt V) D x) [(nm "x", .frz (.str (cs [x]))), (nm "y", .frz (.str (cs [3])))]) := by
  unfold put4
  dsimp only [List.foldl_cons, List.foldl_nil]
  have m1 := putL_len (cs [x, 0]) (AV.int (wgt V x 0)) D
  have t1 := wgt_turn n V hV D (by lia) x 0 hx (by decide)
  generalize put D (cs [x, 0]) (AV.int (wgt V x 0)) = D1 at *
  have m2 := putL_len (cs [x, 1]) (AV.int (wgt V x 1)) D1
  have t2 := wgt_turn n V hV D1 (by lia) x 1 hx (by decide)
  generalize put D1 (cs [x, 1]) (AV.int (wgt V x 1)) = D2 at *
  have m3 := putL_len (cs [x, 2]) (AV.int (wgt V x 2)) D2
  have t3 := wgt_turn n V hV D2 (by lia) x 2 hx (by decide)
  generalize put D2 (cs [x, 2]) (AV.int (wgt V x 2)) = D3 at *
  have m4 := putL_len (cs [x, 3]) (AV.int (wgt V x 3)) D3
  have t4 := wgt_turn n V hV D3 (by lia) x 3 hx (by decide)
  generalize put D3 (cs [x, 3]) (AV.int (wgt V x 3)) = D4 at *
  generalize V.map voteA = VV at *
  refine (ex_S (n := n + 20)).trans (x_cons (x_for (n := n + 20) (ρ1 := gE VV D ((nm "x", .frz (.str (cs [x]))) :: ex)) (src := .str (cs [0, 1, 2, 3])) (l := abcd) (by kernel_rfl) (by kernel_rfl) ?_ (by kernel_rfl) (by kernel_rfl) (by decide) ?_) x_nil)
  · rcases hex with rfl | ⟨y, rfl⟩ <;> kernel_rfl
  · refine f_next (ρ1 := gE VV D [(nm "x", .frz (.str (cs [x]))), (nm "y", .frz (.str (cs [0])))]) ?_ t1 (f_next (by kernel_rfl) t2 (f_next (by kernel_rfl) t3 (f_next (by kernel_rfl) t4 f_nil)))
    rcases hex with rfl | ⟨y, rfl⟩ <;> kernel_rfl

theorem weights_fn (n : Nat) (V : List (List Nat × Int)) (hV : VotesOk V) : (RR (n + 24)).call (nm "_law_weights") [.frz (.list (V.map voteA))] = some (.dict (wD (wgt V)), none) := by
  have e : put4 (wgt V) (put4 (wgt V) (put4 (wgt V) (put4 (wgt V) [] 0) 1) 2) 3 = wD (wgt V) := by
    generalize wgt V = W
    kernel_rfl
  have m1 := put4_len (wgt V) [] 0
  have t1 := wgt_row (n + 1) V hV [] (by simp) 0 (by decide) [] (.inl rfl)
  generalize put4 (wgt V) [] 0 = D1 at *
  have m2 := put4_len (wgt V) D1 1
  simp only [List.length_nil] at m1
  have t2 := wgt_row (n + 1) V hV D1 (by lia) 1 (by decide) _ (.inr ⟨cs [3], rfl⟩)
  generalize put4 (wgt V) D1 1 = D2 at *
  have m3 := put4_len (wgt V) D2 2
  have t3 := wgt_row (n + 1) V hV D2 (by lia) 2 (by decide) _ (.inr ⟨cs [3], rfl⟩)
  generalize put4 (wgt V) D2 2 = D3 at *
  have t4 := wgt_row (n + 1) V hV D3 (by lia) 3 (by decide) _ (.inr ⟨cs [3], rfl⟩)
  rw [e] at t4
  generalize wD (wgt V) = D4 at *
  generalize V.map voteA = VV at *
  refine call_frz (n := n + 23) (d := dF 14) (vs := [.list VV]) (fl := .ret (.dict D4)) (ρ' := ⟨(nm "votes", .frz (.list VV)) :: (nm "weights", .frz (.dict D4)) :: [(nm "x", .frz (.str (cs [3]))), (nm "y", .frz (.str (cs [3])))], []⟩) (by kernel_rfl) (by kernel_rfl) ?_ rfl
  refine (ex_S (n := n + 22)).trans ?_
  refine x_cons (ρ1 := gE VV [] []) (x_fresh (n := n + 22) (ρ1 := ⟨[(nm "votes", .frz (.list VV))], []⟩) (v := .dict []) rfl (by kernel_rfl) (by kernel_rfl) (by kernel_rfl)) ?_
  refine x_cons (x_for (n := n + 22) (ρ1 := gE VV [] []) (src := .str (cs [0, 1, 2, 3])) (l := abcd) (by kernel_rfl) (by kernel_rfl) (by kernel_rfl) (by kernel_rfl) (by kernel_rfl) (by decide) (f_next (by kernel_rfl) t1 (f_next (by kernel_rfl) t2 (f_next (by kernel_rfl) t3 (f_next (by kernel_rfl) t4 f_nil))))) ?_
  exact x_out (by intro h; cases h) (x_ret (n := n + 22) (by kernel_rfl) (by kernel_rfl))
end Mine.P

end

/-! part Ell1 -/
section
set_option maxRecDepth 100000
set_option autoImplicit false
set_option linter.unusedVariables false
namespace Mine.P
open PySem

/-! _ellipsis_match -/

noncomputable def ell (o w : Nat) : Str := ⟨#[46, 46, 46, 97 + o, 46, 46, 46, 97 + w, 46, 46, 46]⟩
noncomputable def wsL (o w : Nat) : List AV := [.str (nm ""), .str (cs [o]), .str (cs [w]), .str (nm "")]
noncomputable def mE (a : Str) (g : Str) (ws : List AV) (s e : Int) (w : Str) : R := ⟨[(nm "want", .frz (.str a)), (nm "got", .frz (.str g)), (nm "ws", .frz (.list ws)), (nm "startpos", .frz (.int s)), (nm "endpos", .frz (.int e)), (nm "w", .frz (.str w))], []⟩
noncomputable def elT : PySem.Expr := match (dF 0).body.drop 9 with | [.For t _ _ _ _, _] => t | _ => .Constant .none 0 ⟨0, 0, 0, 0⟩
noncomputable def elB : List Stmt := match (dF 0).body.drop 9 with | [.For _ _ b _ _, _] => b | _ => []

theorem x_aug {n : Nat} {sc : Scope} {ρ ρ1 : R} {x : Str} {xp p : Pos} {value : PySem.Expr} {a b : Int} {o : Bool} (hk : kind ⟨sc, none⟩ x = some .var) (hl : ρ.vars.lookup x = some (.frz (.int a))) (h1 : (RR n).ev ⟨sc, none⟩ ρ value = some ⟨.int b, o⟩) (h2 : setV sc ρ x (.frz (.int (a + b))) = some ρ1) : ex1N n sc ρ (.AugAssign (.Name x xp) .Add value p) = some (.next, ρ1) := by
  show exAugN (RR n) sc ρ x .Add value = _
  unfold exAugN
  exact ifsI ⟨isK_of hk, rfl⟩ (bndI (bndI hl rfl) (bndI (bndI h1 rfl) (mpdI h2)))

theorem el_turn (n : Nat) (a g : Str) (ws : List AV) (s e q : Int) (w w0 : Str) (k : Nat) (hf : methA (nm "find") (.str g) [.str w, .int s, .int e] = some (.int q)) (hk : w.length = k) (hk2 : k < 1000000) :
    ∃ ρ1, assignA (dF 0).sc elT (.str w) (mE a g ws s e w0) = some ρ1 ∧ (RR (n + 12)).ex (dF 0).sc ρ1 elB = some (if q < 0 then (.ret (.bool false), mE a g ws q e w) else (.next, mE a g ws (q + k) e w)) := by
  refine ⟨mE a g ws s e w, by kernel_rfl, (ex_S (n := n + 11)).trans ?_⟩
  refine x_cons (ρ1 := mE a g ws q e w) (x_namem (n := n + 11) (v := .int q) (ρ1 := mE a g ws s e w) (by kernel_rfl) (e_meth (n := n + 10) (A := ⟨.str g, false⟩) (vs := [.str w, .int s, .int e]) (by kernel_rfl) (by kernel_rfl) rfl (by kernel_rfl) hf rfl) (by kernel_rfl)) ?_
  have ht : (RR (n + 11)).ts ⟨(dF 0).sc, none⟩ (mE a g ws q e w) (match elB with | [_, .If t _ _ _, _] => t | _ => .Constant .none 0 ⟨0, 0, 0, 0⟩) = some (decide (q < 0)) := t_cmp (n := n + 10) (A := ⟨.int q, false⟩) (B := ⟨.int 0, false⟩) rfl (by kernel_rfl) (by kernel_rfl) rfl
  by_cases hq : q < 0
  · rw [if_pos hq]
    refine x_out (by intro h; cases h) (x_if (n := n + 11) (ρ1 := mE a g ws q e w) (by kernel_rfl) ht ?_)
    rw [if_pos (by simpa using hq)]
    exact (ex_S (n := n + 10)).trans (x_out (by intro h; cases h) (x_ret (n := n + 10) (by kernel_rfl) (by kernel_rfl)))
  · rw [if_neg hq]
    refine x_cons (ρ1 := mE a g ws q e w) (x_if (n := n + 11) (ρ1 := mE a g ws q e w) (by kernel_rfl) ht ?_) ?_
    · rw [if_neg (by simpa using hq)]
      exact (ex_S (n := n + 10)).trans x_nil
    · exact x_cons (x_aug (n := n + 11) (a := q) (b := k) (o := false) (by kernel_rfl) (by kernel_rfl) (e_len2 (n := n + 10) (v := .str w) (o := false) (by kernel_rfl) rfl (by kernel_rfl) (by simp [lenA, hk]) hk2) (by kernel_rfl)) x_nil

theorem el_head (n : Nat) (g : Str) (p : Nat × Nat) (hp : p ∈ p12) : exsN (n + 12) (dF 0).sc ⟨[(nm "want", .frz (.str (ell p.1 p.2))), (nm "got", .frz (.str g))], []⟩ ((dF 0).body.take 3) = some (.next, ⟨[(nm "want", .frz (.str (ell p.1 p.2))), (nm "got", .frz (.str g)), (nm "ws", .frz (.list (wsL p.1 p.2)))], []⟩) :=
by
  have h : p12.map (fun p : Nat × Nat => exsN (n + 12) (dF 0).sc ⟨[(nm "want", .frz (.str (ell p.1 p.2))), (nm "got", .frz (.str g))], []⟩ ((dF 0).body.take 3)) = mapG (fun p : Nat × Nat => some (.next, ⟨[(nm "want", .frz (.str (ell p.1 p.2))), (nm "got", .frz (.str g)), (nm "ws", .frz (.list (wsL p.1 p.2)))], []⟩)) p12 := by kernel_rfl
  exact of_map h p hp

theorem exs_append {n : Nat} {sc : Scope} : ∀ {a b : List Stmt} {ρ ρ1 : R} {res : Option (Fl × R)}, exsN n sc ρ a = some (.next, ρ1) → exsN n sc ρ1 b = res → exsN n sc ρ (a ++ b) = res
  | [], b, ρ, ρ1, res, h1, h2 => by cases h1; exact h2
  | s :: a, b, ρ, ρ1, res, h1, h2 => by
    refine bnd (o := ex1N n sc ρ s) h1 fun q hs h1 => ?_
    obtain ⟨f, ρ'⟩ := q
    induction f using Fl.casesOn with
    | next => exact x_cons hs (exs_append h1 h2)
    | _ => cases h1

theorem el_mid (n : Nat) (a g : Str) (o w : Nat) (k : Nat) (hk : g.length = k) (hk2 : k < 1000000) : exsN (n + 12) (dF 0).sc ⟨[(nm "want", .frz (.str a)), (nm "got", .frz (.str g)), (nm "ws", .frz (.list (wsL o w)))], []⟩ (((dF 0).body.drop 3).take 6) = some (.next, mE a g (wsL o w) 0 k (nm "")) := by
  refine x_cons (ρ1 := ⟨[(nm "want", .frz (.str a)), (nm "got", .frz (.str g)), (nm "ws", .frz (.list (wsL o w))), (nm "startpos", .frz (.int 0)), (nm "endpos", .frz (.int k))], []⟩) (x_unpack (n := n + 12) (ρ1 := ⟨[(nm "want", .frz (.str a)), (nm "got", .frz (.str g)), (nm "ws", .frz (.list (wsL o w)))], []⟩) (v := .tup [.int 0, .int k]) (by kernel_rfl) (by kernel_rfl) (e_tup (n := n + 11) (evs_cons rfl (by kernel_rfl) (evs_cons rfl (e_len2 (n := n + 10) (v := .str g) (o := false) (by kernel_rfl) rfl (by kernel_rfl) (by simp [lenA, hk]) hk2) evs_nil)) (by simp)) (by kernel_rfl)) ?_
  have h4 : exsN (n + 12) (dF 0).sc ⟨[(nm "want", .frz (.str a)), (nm "got", .frz (.str g)), (nm "ws", .frz (.list (wsL o w))), (nm "startpos", .frz (.int 0)), (nm "endpos", .frz (.int k))], []⟩ (((dF 0).body.drop 4).take 4) = some (.next, mE a g (wsL o w) 0 k (nm "")) := by kernel_rfl
  refine exs_append h4 ?_
  refine x_cons (ρ1 := mE a g (wsL o w) 0 k (nm "")) (x_if (n := n + 12) (ρ1 := mE a g (wsL o w) 0 k (nm "")) (c := decide ((k : Int) < 0)) (by kernel_rfl) (t_cmp (n := n + 11) (A := ⟨.int 0, false⟩) (B := ⟨.int k, false⟩) rfl (by kernel_rfl) (by kernel_rfl) rfl) ?_) x_nil
  rw [if_neg (by simp)]
  exact (ex_S (n := n + 11)).trans x_nil

/-! the finds -/
noncomputable def txk (ts : List (List Nat)) : List (List Nat × Nat) := ts.flatMap fun t => [0, 1, 2, 3, 4].map fun x => (t, x)
noncomputable def txp : List (List Nat × Nat × Nat) := texts.flatMap fun t => p12.map fun p => (t, p)
/-- where a sign stands from a place on -/
noncomputable def fndFrom (t : List Nat) (x : Nat) (s : Int) : Int := if s ≤ fnd t x then fnd t x else -1
theorem find_e (t : List Nat) (ht : t ∈ texts) (s : Nat) (hs : s < 5) : methA (nm "find") (.str (cs t)) [.str (nm ""), .int s, .int t.length] = some (.int (if s ≤ t.length then (s : Int) else -1)) :=
  of_map (f := fun p : List Nat × Nat => methA (nm "find") (.str (cs p.1)) [.str (nm ""), .int p.2, .int p.1.length]) (g := fun p : List Nat × Nat => some (.int (if p.2 ≤ p.1.length then (p.2 : Int) else -1))) (l := txk texts) (by kernel_rfl) (t, s) (List.mem_flatMap.mpr ⟨t, ht, List.mem_map.mpr ⟨s, by simp; lia, rfl⟩⟩)
theorem find_0 (t : List Nat) (ht : t ∈ texts) (x : Nat) (hx : x < 4) : methA (nm "find") (.str (cs t)) [.str (cs [x]), .int 0, .int t.length] = some (.int (fnd t x)) :=
  of_map (f := fun p : List Nat × Nat => methA (nm "find") (.str (cs p.1)) [.str (cs [p.2]), .int 0, .int p.1.length]) (g := fun p : List Nat × Nat => some (.int (fnd p.1 p.2))) (l := tx4) (by kernel_rfl) (t, x) (mem_tx4 ht hx)
theorem find_s (t : List Nat) (ht : t ∈ texts) (p : Nat × Nat) (hp : p ∈ p12) : methA (nm "find") (.str (cs t)) [.str (cs [p.2]), .int (fnd t p.1 + 1), .int t.length] = some (.int (if fnd t p.1 < fnd t p.2 then fnd t p.2 else -1)) :=
  of_map (f := fun p : List Nat × Nat × Nat => methA (nm "find") (.str (cs p.1)) [.str (cs [p.2.2]), .int (fnd p.1 p.2.1 + 1), .int p.1.length]) (g := fun p : List Nat × Nat × Nat => some (.int (if fnd p.1 p.2.1 < fnd p.1 p.2.2 then fnd p.1 p.2.2 else -1))) (l := txp) (by kernel_rfl) (t, p) (List.mem_flatMap.mpr ⟨t, ht, List.mem_map.mpr ⟨p, hp, rfl⟩⟩)

theorem texts_ok (t : List Nat) (ht : t ∈ texts) : t.length ≤ 4 ∧ ∀ x, x < 4 → fnd t x < t.length := by
  have : ∀ t ∈ texts, t.length ≤ 4 ∧ ∀ x, x < 4 → fnd t x < t.length := by decide +kernel
  exact this t ht
theorem fnd_ge (t : List Nat) (x : Nat) : -1 ≤ fnd t x := by
  unfold fnd; split <;> lia

theorem ellipsis_fn (n : Nat) (t : List Nat) (ht : t ∈ texts) (p : Nat × Nat) (hp : p ∈ p12) : (RR (n + 14)).call (nm "_ellipsis_match") [.frz (.str (ell p.1 p.2)), .frz (.str (cs t))] = some (.bool (aheadB t p.1 p.2), none) := by
  obtain ⟨hx, hy, hne⟩ := p12_lt hp
  obtain ⟨hl, hfl⟩ := texts_ok t ht
  have hlen : (cs t).length = t.length := by simp [cs, Str.length]
  have f1 := find_e t ht 0 (by decide)
  have f2 := find_0 t ht p.1 hx
  have f3 := find_s t ht p hp
  have hfx := hfl p.1 hx
  have hfy := hfl p.2 hy
  have gx := fnd_ge t p.1
  have gy := fnd_ge t p.2
  have mid := el_mid n (ell p.1 p.2) (cs t) p.1 p.2 t.length hlen (by lia)
  have hd := el_head n (cs t) p hp
  have f4 : ∀ q : Int, -1 < q → q < t.length → methA (nm "find") (.str (cs t)) [.str (nm ""), .int (q + 1), .int t.length] = some (.int (q + 1)) := by
    intro q h1 h2
    have := find_e t ht (q + 1).toNat (by lia)
    rw [if_pos (by lia), show (((q + 1).toNat : Nat) : Int) = q + 1 by lia] at this
    exact this
  unfold aheadB
  generalize ell p.1 p.2 = a at *
  generalize fnd t p.1 = i at *
  generalize fnd t p.2 = j at *
  generalize cs t = g at *
  generalize hws : wsL p.1 p.2 = ws at *
  have loop : ∃ ρ', forA (RR (n + 12)) (dF 0).sc elT elB ws (mE a g ws 0 t.length (nm "")) = some (if i < 0 ∨ ¬ i < j then (.ret (.bool false), ρ') else (.next, ρ')) := by
    have hw : ws = [.str (nm ""), .str (cs [p.1]), .str (cs [p.2]), .str (nm "")] := hws.symm
    obtain ⟨ρ1, a1, b1⟩ := el_turn n a g ws 0 t.length 0 (nm "") (nm "") 0 f1 (by decide) (by decide)
    rw [if_neg (by decide)] at b1
    obtain ⟨ρ2, a2, b2⟩ := el_turn n a g ws 0 t.length i (cs [p.1]) (nm "") 1 f2 rfl (by decide)
    by_cases hi : i < 0
    · rw [if_pos hi] at b2
      refine ⟨mE a g ws i t.length (cs [p.1]), ?_⟩
      rw [if_pos (.inl hi)]
      rw [show forA (RR (n + 12)) (dF 0).sc elT elB ws (mE a g ws 0 t.length (nm "")) = forA (RR (n + 12)) (dF 0).sc elT elB [.str (nm ""), .str (cs [p.1]), .str (cs [p.2]), .str (nm "")] (mE a g ws 0 t.length (nm "")) from by rw [← hw]]
      exact f_next a1 b1 (f_ret a2 b2)
    · rw [if_neg hi] at b2
      obtain ⟨ρ3, a3, b3⟩ := el_turn n a g ws (i + 1) t.length _ (cs [p.2]) (cs [p.1]) 1 f3 rfl (by decide)
      by_cases hij : i < j
      · rw [if_pos hij, if_neg (by lia)] at b3
        obtain ⟨ρ4, a4, b4⟩ := el_turn n a g ws (j + 1) t.length (j + 1) (nm "") (cs [p.2]) 0 (f4 j (by lia) hfy) (by decide) (by decide)
        rw [if_neg (by lia)] at b4
        refine ⟨mE a g ws (j + 1 + (0 : Nat)) t.length (nm ""), ?_⟩
        rw [if_neg (by lia)]
        rw [show forA (RR (n + 12)) (dF 0).sc elT elB ws (mE a g ws 0 t.length (nm "")) = forA (RR (n + 12)) (dF 0).sc elT elB [.str (nm ""), .str (cs [p.1]), .str (cs [p.2]), .str (nm "")] (mE a g ws 0 t.length (nm "")) from by rw [← hw]]
        exact f_next a1 b1 (f_next a2 b2 (f_next a3 b3 (f_next a4 b4 f_nil)))
      · rw [if_neg hij, if_pos (by decide)] at b3
        refine ⟨mE a g ws (-1) t.length (cs [p.2]), ?_⟩
        rw [if_pos (.inr hij)]
        rw [show forA (RR (n + 12)) (dF 0).sc elT elB ws (mE a g ws 0 t.length (nm "")) = forA (RR (n + 12)) (dF 0).sc elT elB [.str (nm ""), .str (cs [p.1]), .str (cs [p.2]), .str (nm "")] (mE a g ws 0 t.length (nm "")) from by rw [← hw]]
        exact f_next a1 b1 (f_next a2 b2 (f_ret a3 b3))
  obtain ⟨ρ', loop⟩ := loop
  have hb : (dF 0).body = (dF 0).body.take 3 ++ (((dF 0).body.drop 3).take 6 ++ (dF 0).body.drop 9) := by kernel_rfl
  have hwl : ws.length ≤ 4096 := by rw [← hws]; simp [wsL]
  by_cases hc : i < 0 ∨ ¬ i < j
  · rw [if_pos hc] at loop
    have e : (decide (-1 < i) && decide (i < j)) = false := by
      rcases hc with h | h
      · simp; lia
      · simp [h]
    rw [e]
    refine call_frz (n := n + 13) (d := dF 0) (vs := [.str a, .str g]) (fl := .ret (.bool false)) (ρ' := ρ') (by kernel_rfl) (by kernel_rfl) ?_ rfl
    refine ((ex_S (n := n + 12)).trans (congrArg (exsN (n + 12) (dF 0).sc _) hb)).trans (exs_append hd (exs_append (b := (dF 0).body.drop 9) mid ?_))
    exact x_out (by intro h; cases h) (x_for (n := n + 12) (ρ1 := mE a g ws 0 t.length (nm "")) (src := .list ws) (l := ws) (by kernel_rfl) (by kernel_rfl) (by kernel_rfl) (by kernel_rfl) (by kernel_rfl) hwl loop)
  · rw [if_neg hc] at loop
    have e : (decide (-1 < i) && decide (i < j)) = true := by
      simp; lia
    rw [e]
    refine call_frz (n := n + 13) (d := dF 0) (vs := [.str a, .str g]) (fl := .ret (.bool true)) (ρ' := ρ') (by kernel_rfl) (by kernel_rfl) ?_ rfl
    refine ((ex_S (n := n + 12)).trans (congrArg (exsN (n + 12) (dF 0).sc _) hb)).trans (exs_append hd (exs_append (b := (dF 0).body.drop 9) mid ?_))
    refine x_cons (x_for (n := n + 12) (ρ1 := mE a g ws 0 t.length (nm "")) (src := .list ws) (l := ws) (by kernel_rfl) (by kernel_rfl) (by kernel_rfl) (by kernel_rfl) (by kernel_rfl) hwl loop) ?_
    exact x_out (by intro h; cases h) (x_ret (n := n + 12) (by kernel_rfl) (by kernel_rfl))
end Mine.P

end

/-! part Cnt1 -/
section
set_option maxRecDepth 100000
set_option autoImplicit false
set_option linter.unusedVariables false
namespace Mine.P
open PySem

/-! count_calls, add_callers, add_func_stats -/

noncomputable def dI (D : List (Str × Int)) : List (Str × AV) := D.map fun p => (p.1, .int p.2)
theorem dI_put : ∀ (D : List (Str × Int)) (k : Str) (v : Int), dI (put D k v) = put (dI D) k (.int v)
  | [], k, v => rfl
  | (y, u) :: r, k, v => by
    unfold put dI
    simp only [List.map_cons]
    split
    · rfl
    · simp only [List.map_cons]
      exact congrArg _ (dI_put r k v)
theorem dI_look : ∀ (D : List (Str × Int)) (k : Str), (dI D).lookup k = (D.lookup k).map .int
  | [], k => rfl
  | (y, u) :: r, k => by
    show List.lookup k ((y, AV.int u) :: dI r) = _
    simp only [List.lookup]
    split
    · rfl
    · exact dI_look r k
theorem dI_len (D : List (Str × Int)) : (dI D).length = D.length := List.length_map ..

/-! count_calls -/
noncomputable def kE (D : List (Str × AV)) (s : Int) (ex : List (Str × Var)) : R := ⟨(nm "callers", .frz (.dict D)) :: (nm "nc", .frz (.int s)) :: ex, []⟩
noncomputable def kT : PySem.Expr := match (dF 8).body with | [_, .For t _ _ _ _, _] => t | _ => .Constant .none 0 ⟨0, 0, 0, 0⟩
noncomputable def kB : List Stmt := match (dF 8).body with | [_, .For _ _ b _ _, _] => b | _ => []
theorem cc_loop (n : Nat) (DD : List (Str × AV)) : ∀ (l : List Int) (s : Int) (ex : List (Str × Var)), (ex = [] ∨ ∃ c, ex = [(nm "calls", .frz c)]) →
    ∃ ex', forA (RR (n + 8)) (dF 8).sc kT kB (l.map .int) (kE DD s ex) = some (.next, kE DD (s + l.sum) ex') ∧ (ex' = [] ∨ ∃ c, ex' = [(nm "calls", .frz c)])
  | [], s, ex, hex => ⟨ex, by simp only [List.map_nil, List.sum_nil, Int.add_zero]; exact f_nil, hex⟩
  | i :: l, s, ex, hex => by
    obtain ⟨ex', i1, i2⟩ := cc_loop n DD l (s + i) [(nm "calls", .frz (.int i))] (.inr ⟨_, rfl⟩)
    refine ⟨ex', ?_, i2⟩
    rw [List.map_cons, List.sum_cons, ← Int.add_assoc]
    refine f_next (ρ1 := kE DD s [(nm "calls", .frz (.int i))]) (by rcases hex with rfl | ⟨c, rfl⟩ <;> kernel_rfl) ((ex_S (n := n + 7)).trans ?_) i1
    exact x_cons (x_aug (n := n + 7) (a := s) (b := i) (o := false) (by kernel_rfl) (by kernel_rfl) (by kernel_rfl) (by kernel_rfl)) x_nil

theorem count_fn (n : Nat) (D : List (Str × Int)) (hl : D.length ≤ 4096) : (RR (n + 11)).call (nm "count_calls") [.frz (.dict (dI D))] = some (.int (D.map (·.2)).sum, none) := by
  obtain ⟨ex', h1, h2⟩ := cc_loop (n + 1) (dI D) (D.map (·.2)) 0 [] (.inl rfl)
  rw [Int.zero_add] at h1
  have hv : iterA kT (.values (dI D)) = some ((D.map (·.2)).map .int) := by
    refine Eq.trans (b := some ((dI D).map (·.2))) rfl ?_
    rw [dI, List.map_map, List.map_map]; rfl
  have hll : ((D.map (·.2)).map AV.int).length ≤ 4096 := by simpa using hl
  generalize (D.map (·.2)).sum = s at *
  generalize (D.map (·.2)).map AV.int = l at *
  generalize dI D = DD at *
  refine call_frz (n := n + 10) (d := dF 8) (vs := [.dict DD]) (fl := .ret (.int s)) (ρ' := kE DD s ex') (by kernel_rfl) (by kernel_rfl) ?_ rfl
  refine (ex_S (n := n + 9)).trans ?_
  refine x_cons (ρ1 := kE DD 0 []) (x_name (n := n + 9) (v := .int 0) (ρ1 := ⟨[(nm "callers", .frz (.dict DD))], []⟩) rfl (by kernel_rfl) (by kernel_rfl) (by kernel_rfl)) ?_
  refine x_cons (x_for (n := n + 9) (ρ1 := kE DD 0 []) (src := .values DD) (l := l) (by kernel_rfl) (by kernel_rfl) (by kernel_rfl) (by kernel_rfl) hv hll h1) ?_
  exact x_out (by intro h; cases h) (x_ret (n := n + 9) (by rcases h2 with rfl | ⟨c, rfl⟩ <;> kernel_rfl) (by kernel_rfl))

/-! add_callers -/
noncomputable def nE (T Sr : List (Str × AV)) (N : List (Str × AV)) (ex : List (Str × Var)) : R := ⟨(nm "target", .frz (.dict T)) :: (nm "source", .frz (.dict Sr)) :: (nm "new_callers", .own (.dict N)) :: ex, []⟩
noncomputable def nX (f : Str) (c : Int) : List (Str × Var) := [(nm "func", .frz (.str f)), (nm "caller", .frz (.int c))]
noncomputable def nT1 : PySem.Expr := match (dF 7).body with | [_, .For t _ _ _ _, _, _] => t | _ => .Constant .none 0 ⟨0, 0, 0, 0⟩
noncomputable def nB1 : List Stmt := match (dF 7).body with | [_, .For _ _ b _ _, _, _] => b | _ => []
noncomputable def nT2 : PySem.Expr := match (dF 7).body with | [_, _, .For t _ _ _ _, _] => t | _ => .Constant .none 0 ⟨0, 0, 0, 0⟩
noncomputable def nB2 : List Stmt := match (dF 7).body with | [_, _, .For _ _ b _ _, _] => b | _ => []
noncomputable def itm (p : Str × Int) : AV := .tup [.str p.1, .int p.2]

theorem ac_loop1 (n : Nat) (T Sr : List (Str × AV)) : ∀ (l : List (Str × Int)) (N : List (Str × Int)) (ex : List (Str × Var)), N.length + l.length ≤ 4096 → (ex = [] ∨ ∃ f c, ex = nX f c) →
    ∃ ex', forA (RR (n + 8)) (dF 7).sc nT1 nB1 (l.map itm) (nE T Sr (dI N) ex) = some (.next, nE T Sr (dI (l.foldl (fun N p => put N p.1 p.2) N)) ex') ∧ (ex' = [] ∨ ∃ f c, ex' = nX f c)
  | [], N, ex, hl, hex => ⟨ex, f_nil, hex⟩
  | (k, v) :: l, N, ex, hl, hex => by
    simp only [List.length_cons] at hl
    have hp := putL_len k v N
    obtain ⟨ex', i1, i2⟩ := ac_loop1 n T Sr l (put N k v) (nX k v) (by lia) (.inr ⟨_, _, rfl⟩)
    refine ⟨ex', ?_, i2⟩
    have hst : storeA (.dict (dI N)) (.str k) (.int v) = some (.dict (dI (put N k v))) := by
      rw [st_dict (by rw [dI_len]; lia), dI_put]
    rw [List.map_cons, List.foldl_cons]
    generalize dI N = N1 at *
    dsimp only
    generalize hN2 : dI (put N k v) = N2 at *
    refine f_next (ρ1 := nE T Sr N1 (nX k v)) (ρ2 := nE T Sr N2 (nX k v)) (by rcases hex with rfl | ⟨f, c, rfl⟩ <;> kernel_rfl) ((ex_S (n := n + 7)).trans ?_) i1
    exact x_cons (x_store (n := n + 7) (ρ1 := nE T Sr N1 (nX k v)) (I := ⟨.str k, false⟩) (v := .int v) (c := .dict N1) (by kernel_rfl) (by kernel_rfl) (by kernel_rfl) (by kernel_rfl) (by kernel_rfl) hst (by kernel_rfl)) x_nil

theorem x_augsub {n : Nat} {sc : Scope} {ρ ρ1 : R} {x k : Str} {xp sp p : Pos} {i value : PySem.Expr} {d : List (Str × AV)} {a b : Int} {o1 o2 : Bool} (hs : isSlice i = false) (hk : kind ⟨sc, none⟩ x = some .var) (ho : ownOf ρ x = some (.dict d)) (h1 : (RR n).ev ⟨sc, none⟩ ρ i = some ⟨.str k, o1⟩) (h2 : (RR n).ev ⟨sc, none⟩ ρ value = some ⟨.int b, o2⟩)
    (hl : d.lookup k = some (.int a)) (hd : d.length ≤ 4096) (hset : setOwn ρ x (.dict (put d k (.int (a + b)))) = ρ1) : ex1N n sc ρ (.AugAssign (.Subscript (.Name x xp) i sp) .Add value p) = some (.next, ρ1) := by
  show exAugS (RR n) sc ρ x i .Add value = _
  unfold exAugS
  exact hset ▸ ifsI ⟨hs, isK_of hk, rfl⟩ (bndI (bndI ho rfl) (bndI (bndI h1 rfl) (bndI (bndI h2 rfl) (bndI (bndI hl rfl) (ifsI hd rfl)))))

noncomputable def addI (N : List (Str × Int)) (p : Str × Int) : List (Str × Int) := put N p.1 (match N.lookup p.1 with | some a => a + p.2 | none => p.2)

theorem ac_turn2 (n : Nat) (T Sr : List (Str × AV)) (N : List (Str × Int)) (hl : N.length ≤ 4096) (k : Str) (v : Int) : (RR (n + 12)).ex (dF 7).sc (nE T Sr (dI N) (nX k v)) nB2 = some (.next, nE T Sr (dI (addI N (k, v))) (nX k v)) := by
  have hdl : (dI N).length ≤ 4096 := by rw [dI_len]; exact hl
  have ht : cmpA .In (.str k) (.dict (dI N)) = some (N.lookup k).isSome := by
    rw [c_ind, dI_look]; cases N.lookup k <;> rfl
  have hlk := dI_look N k
  unfold addI
  dsimp only
  rw [dI_put]
  generalize dI N = N1 at *
  refine (ex_S (n := n + 11)).trans ?_
  cases hc : N.lookup k with
  | none =>
    rw [hc] at ht
    have hst : storeA (.dict N1) (.str k) (.int v) = some (.dict (put N1 k (.int v))) := st_dict hdl
    dsimp only
    generalize put N1 k (.int v) = N2 at *
    refine x_cons (x_if (n := n + 11) (ρ1 := nE T Sr N1 (nX k v)) (c := false) (by kernel_rfl) (t_cmp (n := n + 10) (A := ⟨.str k, false⟩) (B := ⟨.dict N1, true⟩) rfl (by kernel_rfl) (by kernel_rfl) ht) ?_) x_nil
    rw [if_neg (by decide)]
    exact (ex_S (n := n + 10)).trans (x_cons (x_store (n := n + 10) (ρ1 := nE T Sr N1 (nX k v)) (I := ⟨.str k, false⟩) (v := .int v) (c := .dict N1) (by kernel_rfl) (by kernel_rfl) (by kernel_rfl) (by kernel_rfl) (by kernel_rfl) hst (by kernel_rfl)) x_nil)
  | some a =>
    rw [hc] at ht hlk
    refine x_cons (x_if (n := n + 11) (ρ1 := nE T Sr N1 (nX k v)) (c := true) (by kernel_rfl) (t_cmp (n := n + 10) (A := ⟨.str k, false⟩) (B := ⟨.dict N1, true⟩) rfl (by kernel_rfl) (by kernel_rfl) ht) ?_) x_nil
    rw [if_pos rfl]
    refine (ex_S (n := n + 10)).trans (x_cons (x_if (n := n + 10) (ρ1 := nE T Sr N1 (nX k v)) (c := false) (by kernel_rfl) (by kernel_rfl) ?_) x_nil)
    rw [if_neg (by decide)]
    exact (ex_S (n := n + 9)).trans (x_cons (x_augsub (n := n + 9) (k := k) (d := N1) (a := a) (b := v) (o1 := false) (o2 := false) (by kernel_rfl) (by kernel_rfl) (by kernel_rfl) (by kernel_rfl) (by kernel_rfl) hlk hdl (by kernel_rfl)) x_nil)

theorem addI_len (N : List (Str × Int)) (p : Str × Int) : (addI N p).length ≤ N.length + 1 := putL_len _ _ _

theorem ac_loop2 (n : Nat) (T Sr : List (Str × AV)) : ∀ (l : List (Str × Int)) (N : List (Str × Int)) (ex : List (Str × Var)), N.length + l.length ≤ 4096 → (ex = [] ∨ ∃ f c, ex = nX f c) →
    ∃ ex', forA (RR (n + 12)) (dF 7).sc nT2 nB2 (l.map itm) (nE T Sr (dI N) ex) = some (.next, nE T Sr (dI (l.foldl addI N)) ex') ∧ (ex' = [] ∨ ∃ f c, ex' = nX f c)
  | [], N, ex, hl, hex => ⟨ex, f_nil, hex⟩
  | (k, v) :: l, N, ex, hl, hex => by
    simp only [List.length_cons] at hl
    have hp := addI_len N (k, v)
    obtain ⟨ex', i1, i2⟩ := ac_loop2 n T Sr l (addI N (k, v)) (nX k v) (by lia) (.inr ⟨_, _, rfl⟩)
    refine ⟨ex', ?_, i2⟩
    have ht := ac_turn2 n T Sr N (by lia) k v
    rw [List.map_cons, List.foldl_cons]
    generalize dI N = N1 at *
    refine f_next (ρ1 := nE T Sr N1 (nX k v)) (by rcases hex with rfl | ⟨f, c, rfl⟩ <;> kernel_rfl) ht i1

/-- the keys are all different -/
noncomputable def Ndp (D : List (Str × Int)) : Prop := (D.map (·.1)).Nodup
theorem look_none {α : Type} {k : Str} : ∀ {D : List (Str × α)}, k ∉ D.map (·.1) → D.lookup k = none
  | [], _ => rfl
  | (y, u) :: r, h => by
    simp only [List.map_cons, List.mem_cons, not_or] at h
    have : (k == y) = false := by simpa using h.1
    simp only [List.lookup, this]
    exact look_none h.2
theorem putL_new {α : Type} {k : Str} {v : α} : ∀ {D : List (Str × α)}, k ∉ D.map (·.1) → put D k v = D ++ [(k, v)]
  | [], _ => rfl
  | (y, u) :: r, h => by
    simp only [List.map_cons, List.mem_cons, not_or] at h
    unfold put
    rw [if_neg (fun q => h.1 q.symm), putL_new h.2]; rfl
theorem copy_ok : ∀ (l N : List (Str × Int)), Ndp (N ++ l) → l.foldl (fun N p => put N p.1 p.2) N = N ++ l
  | [], N, h => by simp
  | (k, v) :: l, N, h => by
    rw [List.foldl_cons]
    have hk : k ∉ N.map (·.1) := by
      unfold Ndp at h
      rw [List.map_append, List.nodup_append] at h
      intro hm
      exact h.2.2 k hm k (by simp) rfl
    dsimp only
    rw [putL_new hk, copy_ok l (N ++ [(k, v)]) (by simpa using h)]
    simp

theorem iter_items (t : PySem.Expr) (d : List (Str × AV)) : iterA t (.items d) = if isTupT t = true then some (d.map fun p => .tup [.str p.1, p.2]) else none := rfl
theorem add_callers_fn (n : Nat) (D Sr : List (Str × Int)) (hD : Ndp D) (hl : D.length ≤ 1000) (hs : Sr.length ≤ 1000) : (RR (n + 16)).call (nm "add_callers") [.frz (.dict (dI D)), .frz (.dict (dI Sr))] = some (.dict (dI (Sr.foldl addI D)), none) := by
  obtain ⟨ex1, h1, g1⟩ := ac_loop1 (n + 6) (dI D) (dI Sr) D [] [] (by simp; lia) (.inl rfl)
  rw [copy_ok D [] (by simpa using hD), List.nil_append] at h1
  obtain ⟨ex2, h2, g2⟩ := ac_loop2 (n + 2) (dI D) (dI Sr) Sr D ex1 (by lia) g1
  have i1 : iterA nT1 (.items (dI D)) = some (D.map itm) := by
    rw [iter_items, if_pos (by kernel_rfl)]
    unfold dI
    rw [List.map_map]; rfl
  have i2 : iterA nT2 (.items (dI Sr)) = some (Sr.map itm) := by
    rw [iter_items, if_pos (by kernel_rfl)]
    unfold dI
    rw [List.map_map]; rfl
  have l1 : (D.map itm).length ≤ 4096 := by rw [List.length_map]; lia
  have l2 : (Sr.map itm).length ≤ 4096 := by rw [List.length_map]; lia
  have e0 : dI [] = [] := rfl
  rw [e0] at h1
  generalize dI (Sr.foldl addI D) = F at *
  generalize D.map itm = DL at *
  generalize Sr.map itm = SL at *
  generalize dI D = DD at *
  generalize dI Sr = SS at *
  have fin : ∃ ρ', exsN (n + 14) (dF 7).sc (nE DD SS F ex2) ((dF 7).body.drop 3) = some (.ret (.dict F), ρ') := by
    rcases g2 with rfl | ⟨f, c, rfl⟩
    · exact ⟨_, x_out (by intro h; cases h) (x_ret (n := n + 14) (ρ1 := ⟨[(nm "target", .frz (.dict DD)), (nm "source", .frz (.dict SS)), (nm "new_callers", .frz (.dict F))], []⟩) (by kernel_rfl) (by kernel_rfl))⟩
    · exact ⟨_, x_out (by intro h; cases h) (x_ret (n := n + 14) (ρ1 := ⟨(nm "target", .frz (.dict DD)) :: (nm "source", .frz (.dict SS)) :: (nm "new_callers", .frz (.dict F)) :: nX f c, []⟩) (by kernel_rfl) (by kernel_rfl))⟩
  obtain ⟨ρ', fin⟩ := fin
  refine call_frz (n := n + 15) (d := dF 7) (vs := [.dict DD, .dict SS]) (fl := .ret (.dict F)) (ρ' := ρ') (by kernel_rfl) (by kernel_rfl) ?_ rfl
  refine (ex_S (n := n + 14)).trans ?_
  refine x_cons (ρ1 := nE DD SS [] []) (x_fresh (n := n + 14) (ρ1 := ⟨[(nm "target", .frz (.dict DD)), (nm "source", .frz (.dict SS))], []⟩) (v := .dict []) rfl (by kernel_rfl) (by kernel_rfl) (by kernel_rfl)) ?_
  refine x_cons (x_for (n := n + 14) (ρ1 := nE DD SS [] []) (src := .items DD) (l := DL) (by kernel_rfl) (by kernel_rfl) (by kernel_rfl) (by kernel_rfl) i1 l1 h1) ?_
  exact x_cons (x_for (n := n + 14) (ρ1 := nE DD SS DD ex1) (src := .items SS) (l := SL) (by kernel_rfl) (by kernel_rfl) (by rcases g1 with rfl | ⟨f, c, rfl⟩ <;> kernel_rfl) (by kernel_rfl) i2 l2 h2) fin

/-! add_func_stats -/
noncomputable def stat (a b c d : Int) (D : List (Str × AV)) : AV := .tup [.int a, .int b, .int c, .int d, .dict D]
theorem add_func_stats_fn (n : Nat) (a b c d a' b' c' d' : Int) (D Sr F : List (Str × AV)) (h : (RR (n + 16)).call (nm "add_callers") [.frz (.dict D), .frz (.dict Sr)] = some (.dict F, none)) :
    (RR (n + 20)).call (nm "add_func_stats") [.frz (stat a b c d D), .frz (stat a' b' c' d' Sr)] = some (stat (a' + a) (b' + b) (c' + c) (d' + d) F, none) := by
  let ρ2 : R := ⟨[(nm "target", .frz (stat a b c d D)), (nm "source", .frz (stat a' b' c' d' Sr)), (nm "cc", .frz (.int a')), (nm "nc", .frz (.int b')), (nm "tt", .frz (.int c')), (nm "ct", .frz (.int d')), (nm "callers", .frz (.dict Sr)), (nm "t_cc", .frz (.int a)), (nm "t_nc", .frz (.int b)), (nm "t_tt", .frz (.int c)), (nm "t_ct", .frz (.int d)), (nm "t_callers", .frz (.dict D))], []⟩
  refine call_frz (n := n + 19) (d := dF 6) (vs := [stat a b c d D, stat a' b' c' d' Sr]) (fl := .ret (stat (a' + a) (b' + b) (c' + c) (d' + d) F)) (ρ' := ρ2) (by kernel_rfl) (by kernel_rfl) ?_ rfl
  have hb : (dF 6).body = (dF 6).body.take 2 ++ (dF 6).body.drop 2 := by kernel_rfl
  refine ((ex_S (n := n + 18)).trans (congrArg (exsN (n + 18) (dF 6).sc _) hb)).trans ?_
  have hd : exsN (n + 18) (dF 6).sc ⟨[(nm "target", .frz (stat a b c d D)), (nm "source", .frz (stat a' b' c' d' Sr))], []⟩ ((dF 6).body.take 2) = some (.next, ρ2) := by kernel_rfl
  refine exs_append hd ?_
  refine x_out (by intro h; cases h) (x_ret (n := n + 18) (ρ1 := ρ2) (by kernel_rfl) (e_tup (n := n + 17) (vs := [.int (a' + a), .int (b' + b), .int (c' + c), .int (d' + d), .dict F]) (evs_cons rfl (by kernel_rfl) (evs_cons rfl (by kernel_rfl) (evs_cons rfl (by kernel_rfl) (evs_cons rfl (by kernel_rfl) (evs_cons rfl (e_call (n := n + 16) (vs := [.dict D, .dict Sr]) (by kernel_rfl) (by kernel_rfl) (by kernel_rfl) h) evs_nil))))) (by simp)))
end Mine.P

end

/-! part Cnt2 -/
section
set_option maxRecDepth 100000
set_option autoImplicit false
set_option linter.unusedVariables false
namespace Mine.P
open PySem

/-! _law_counted -/

noncomputable def ahd (os : List Nat) (t : List Nat) (w : Int) (who : Nat) : List (Str × Int) := (os.filter fun o => decide (o ≠ who) && aheadB t o who).map fun o => (cs [o], w)
noncomputable def ahL (t : List Nat) (w : Int) (who : Nat) : List (Str × Int) := ahd [0, 1, 2, 3] t w who

noncomputable def tE (V : List AV) (Tb : List (Str × AV)) (who : Nat) (en : AV) (ex : List (Str × Var)) : R := ⟨(nm "votes", .frz (.list V)) :: (nm "tables", .own (.dict Tb)) :: (nm "who", .frz (.str (cs [who]))) :: (nm "entry", .frz en) :: ex, []⟩
noncomputable def tZ (t : List Nat) (w : Int) (ex : List (Str × Var)) : List (Str × Var) := (nm "text", .frz (.str (cs t))) :: (nm "weight", .frz (.int w)) :: ex
noncomputable def ctF : List Stmt := match (dF 11).body with | [_, .For _ _ b _ _, _] => b | _ => []
noncomputable def ctT : PySem.Expr := match (dF 11).body with | [_, .For t _ _ _ _, _] => t | _ => .Constant .none 0 ⟨0, 0, 0, 0⟩
noncomputable def ctG : List Stmt := match ctF with | [_, .For _ _ b _ _, _] => b | _ => []
noncomputable def ctU : PySem.Expr := match ctF with | [_, .For t _ _ _ _, _] => t | _ => .Constant .none 0 ⟨0, 0, 0, 0⟩
noncomputable def ctH : List Stmt := match ctG with | [_, .For _ _ b _ _, _] => b | _ => []
noncomputable def ctW : PySem.Expr := match ctG with | [_, .For t _ _ _ _, _] => t | _ => .Constant .none 0 ⟨0, 0, 0, 0⟩
noncomputable def ctA : PySem.Expr := match ctH with | [.If (.BoolOp _ [_, .Compare (.Call _ [a, _] _ _) _ _ _] _) _ _ _] => a | _ => .Constant .none 0 ⟨0, 0, 0, 0⟩
noncomputable def ctC : PySem.Expr := match ctH with | [.If (.BoolOp _ [_, c] _) _ _ _] => c | _ => .Constant .none 0 ⟨0, 0, 0, 0⟩
noncomputable def ctN : PySem.Expr := match ctH with | [.If (.BoolOp _ [c, _] _) _ _ _] => c | _ => .Constant .none 0 ⟨0, 0, 0, 0⟩

theorem ell_ev (n : Nat) (V : List AV) (Tb : List (Str × AV)) (en : AV) (t : List Nat) (w : Int) (A : List (Str × AV)) (p : Nat × Nat) (hp : p ∈ p12) :
    (RR (n + 8)).ev ⟨(dF 11).sc, none⟩ (tE V Tb p.2 en (tZ t w [(nm "ahead", .own (.dict A)), (nm "other", .frz (.str (cs [p.1])))])) ctA = some ⟨.str (ell p.1 p.2), false⟩ := by
  have h : p12.map (fun p : Nat × Nat => (RR (n + 8)).ev ⟨(dF 11).sc, none⟩ (tE V Tb p.2 en (tZ t w [(nm "ahead", .own (.dict A)), (nm "other", .frz (.str (cs [p.1])))])) ctA) = mapG (fun p : Nat × Nat => some ⟨.str (ell p.1 p.2), false⟩) p12 := by kernel_rfl
  exact of_map h p hp

theorem cs1_inj {a b : Nat} : cs [a] = cs [b] ↔ a = b := by
  constructor
  · intro e
    simp only [cs, List.map_cons, List.map_nil, Str.mk.injEq, Array.mk.injEq, List.cons.injEq, and_true] at e
    lia
  · rintro rfl; rfl

theorem other_turn (n : Nat) (V : List AV) (Tb : List (Str × AV)) (who : Nat) (hw : who < 4) (en : AV) (t : List Nat) (ht : t ∈ texts) (w : Int) (A : List (Str × AV)) (hA : A.length ≤ 4096) (o : Nat) (ho : o < 4) :
    (RR (n + 20)).ex (dF 11).sc (tE V Tb who en (tZ t w [(nm "ahead", .own (.dict A)), (nm "other", .frz (.str (cs [o])))])) ctH = some (.next, tE V Tb who en (tZ t w [(nm "ahead", .own (.dict (if (decide (o ≠ who) && aheadB t o who) = true then put A (cs [o]) (.int w) else A))), (nm "other", .frz (.str (cs [o])))])) := by
  refine (ex_S (n := n + 19)).trans ?_
  have hne : cmpA .NotEq (.str (cs [o])) (.str (cs [who])) = some (decide (o ≠ who)) := by
    rw [c_sne]
    by_cases h : o = who
    · subst h; simp
    · have : ¬ cs [o] = cs [who] := fun q => h (cs1_inj.mp q)
      simp [h, this]
  have test : (RR (n + 19)).ts ⟨(dF 11).sc, none⟩ (tE V Tb who en (tZ t w [(nm "ahead", .own (.dict A)), (nm "other", .frz (.str (cs [o])))])) (match ctH with | [.If t _ _ _] => t | _ => .Constant .none 0 ⟨0, 0, 0, 0⟩) = some (decide (o ≠ who) && aheadB t o who) := by
    refine t_and2 (n := n + 18) (t_cmp (n := n + 17) (A := ⟨.str (cs [o]), false⟩) (B := ⟨.str (cs [who]), false⟩) rfl (by kernel_rfl) (by kernel_rfl) hne) fun hd => ?_
    have hd := of_decide_eq_true hd
    have hp : (o, who) ∈ p12 := by
      have : ∀ v, v < 4 → ∀ u, u < 4 → (v = u ∨ (v, u) ∈ p12) := by decide
      exact (this o ho who hw).resolve_left hd
    have he := ell_ev (n + 8) V Tb en t w A (o, who) hp
    have hf := ellipsis_fn (n + 2) t ht (o, who) hp
    dsimp only at he hf
    refine t_cmp (n := n + 17) (A := ⟨.bool (aheadB t o who), false⟩) (B := ⟨.bool true, false⟩) rfl (e_call (n := n + 16) (vs := [.str (ell o who), .str (cs t)]) (by kernel_rfl) (by kernel_rfl) (evs_cons rfl he (evs_cons rfl (by kernel_rfl) evs_nil)) hf) (by kernel_rfl) ?_
    cases aheadB t o who <;> rfl
  have hst : storeA (.dict A) (.str (cs [o])) (.int w) = some (.dict (put A (cs [o]) (.int w))) := st_dict hA
  generalize put A (cs [o]) (.int w) = A2 at *
  refine x_cons (ρ1 := tE V Tb who en (tZ t w [(nm "ahead", .own (.dict (if (decide (o ≠ who) && aheadB t o who) = true then A2 else A))), (nm "other", .frz (.str (cs [o])))])) (x_if (n := n + 19) (ρ1 := tE V Tb who en (tZ t w [(nm "ahead", .own (.dict A)), (nm "other", .frz (.str (cs [o])))])) (by kernel_rfl) test ?_) x_nil
  by_cases hb : (decide (o ≠ who) && aheadB t o who) = true
  · rw [if_pos hb, if_pos hb]
    exact (ex_S (n := n + 18)).trans (x_cons (x_store (n := n + 18) (ρ1 := tE V Tb who en (tZ t w [(nm "ahead", .own (.dict A)), (nm "other", .frz (.str (cs [o])))])) (I := ⟨.str (cs [o]), false⟩) (v := .int w) (c := .dict A) (by kernel_rfl) (by kernel_rfl) (by kernel_rfl) (by kernel_rfl) (by kernel_rfl) hst (by kernel_rfl)) x_nil)
  · rw [if_neg hb, if_neg hb]
    exact (ex_S (n := n + 18)).trans x_nil

theorem other_loop (n : Nat) (V : List AV) (Tb : List (Str × AV)) (who : Nat) (hw : who < 4) (en : AV) (t : List Nat) (ht : t ∈ texts) (w : Int) : ∀ (os : List Nat) (A : List (Str × Int)) (ex : List (Str × Var)), (∀ o ∈ os, o < 4 ∧ cs [o] ∉ A.map (·.1)) → os.Nodup → A.length + os.length ≤ 4096 → (ex = [] ∨ ∃ s, ex = [(nm "other", .frz (.str s))]) →
    ∃ ex', forA (RR (n + 20)) (dF 11).sc ctW ctH (os.map fun o => .str (cs [o])) (tE V Tb who en (tZ t w ((nm "ahead", .own (.dict (dI A))) :: ex))) = some (.next, tE V Tb who en (tZ t w ((nm "ahead", .own (.dict (dI (A ++ ahd os t w who)))) :: ex'))) ∧ (os = [] ∧ ex' = ex ∨ ∃ s, ex' = [(nm "other", .frz (.str s))])
  | [], A, ex, h, hn, hl, hex => ⟨ex, by rw [show A ++ ahd [] t w who = A by simp [ahd]]; exact f_nil, .inl ⟨rfl, rfl⟩⟩
  | o :: os, A, ex, h, hn, hl, hex => by
    obtain ⟨ho, hoA⟩ := h o List.mem_cons_self
    simp only [List.length_cons] at hl
    obtain ⟨hn1, hn2⟩ := List.nodup_cons.mp hn
    have t1 := other_turn n V Tb who hw en t ht w (dI A) (by rw [dI_len]; lia) o ho
    have ecase : ∃ A2 : List (Str × Int), (if (decide (o ≠ who) && aheadB t o who) = true then put (dI A) (cs [o]) (.int w) else dI A) = dI A2 ∧ A2 ++ ahd os t w who = A ++ ahd (o :: os) t w who ∧ (∀ q ∈ os, q < 4 ∧ cs [q] ∉ A2.map (·.1)) ∧ A2.length ≤ A.length + 1 := by
      by_cases hb : (decide (o ≠ who) && aheadB t o who) = true
      · refine ⟨A ++ [(cs [o], w)], ?_, ?_, ?_, by simp⟩
        · rw [if_pos hb, ← dI_put, putL_new hoA]
        · unfold ahd
          simp only [List.filter_cons]
          rw [if_pos hb]
          simp
        · intro q hq
          refine ⟨(h q (List.mem_cons_of_mem _ hq)).1, ?_⟩
          simp only [List.map_append, List.mem_append, List.map_cons, List.map_nil, List.mem_singleton, not_or]
          refine ⟨(h q (List.mem_cons_of_mem _ hq)).2, fun e => ?_⟩
          rw [cs1_inj] at e
          subst e
          exact hn1 hq
      · refine ⟨A, by rw [if_neg hb], ?_, fun q hq => h q (List.mem_cons_of_mem _ hq), by lia⟩
        unfold ahd
        simp only [List.filter_cons]
        rw [if_neg hb]
    obtain ⟨A2, e1, e2, e3, e4⟩ := ecase
    rw [e1] at t1
    obtain ⟨ex', i1, i2⟩ := other_loop n V Tb who hw en t ht w os A2 [(nm "other", .frz (.str (cs [o])))] e3 hn2 (by lia) (.inr ⟨_, rfl⟩)
    rw [e2] at i1
    refine ⟨ex', ?_, ?_⟩
    · rw [List.map_cons]
      generalize dI (A ++ ahd (o :: os) t w who) = F at *
      generalize dI A2 = AA2 at *
      generalize dI A = AA at *
      exact f_next (ρ1 := tE V Tb who en (tZ t w [(nm "ahead", .own (.dict AA)), (nm "other", .frz (.str (cs [o])))])) (by rcases hex with rfl | ⟨s, rfl⟩ <;> kernel_rfl) t1 i1
    · rcases i2 with ⟨_, rfl⟩ | h
      · exact .inr ⟨_, rfl⟩
      · exact .inr h

/-- the entry as the votes come -/
noncomputable def cntS (who : Nat) (s : Int × Int × Int × Int × List (Str × Int)) (v : List Nat × Int) : Int × Int × Int × Int × List (Str × Int) :=
  ((if (ahL v.1 v.2 who).isEmpty then 1 else 0) + s.1, 1 + s.2.1, v.2 + s.2.2.1, ((ahL v.1 v.2 who).map (·.2)).sum + s.2.2.2.1, (ahL v.1 v.2 who).foldl addI s.2.2.2.2)
noncomputable def statS (s : Int × Int × Int × Int × List (Str × Int)) : AV := stat s.1 s.2.1 s.2.2.1 s.2.2.2.1 (dI s.2.2.2.2)

theorem ahL_len (t : List Nat) (w : Int) (who : Nat) : (ahL t w who).length ≤ 4 := by
  unfold ahL ahd
  rw [List.length_map]
  exact List.length_filter_le _ [0, 1, 2, 3]

noncomputable def exV (ex : List (Str × Var)) : Prop := ex = [] ∨ ∃ t w A o, ex = tZ t w [(nm "ahead", .frz (.dict A)), (nm "other", .frz (.str o))]

theorem count_turn (n : Nat) (V : List AV) (Tb : List (Str × AV)) (who : Nat) (hw : who < 4) (s : Int × Int × Int × Int × List (Str × Int)) (hD : Ndp s.2.2.2.2) (hDl : s.2.2.2.2.length ≤ 900) (t : List Nat) (ht : t ∈ texts) (w : Int) (ex : List (Str × Var)) (hex : exV ex) :
    ∃ ρ1 ex', assignA (dF 11).sc ctU (voteA (t, w)) (tE V Tb who (statS s) ex) = some ρ1 ∧ (RR (n + 30)).ex (dF 11).sc ρ1 ctG = some (.next, tE V Tb who (statS (cntS who s (t, w))) ex') ∧ exV ex' := by
  have hal := ahL_len t w who
  have hac := add_callers_fn (n + 8) s.2.2.2.2 (ahL t w who) hD (by lia) (by lia)
  have hafs := add_func_stats_fn (n + 8) s.1 s.2.1 s.2.2.1 s.2.2.2.1 (if (ahL t w who).isEmpty then 1 else 0) 1 w ((ahL t w who).map (·.2)).sum (dI s.2.2.2.2) (dI (ahL t w who)) _ hac
  have hcc := count_fn (n + 15) (ahL t w who) (by lia)
  obtain ⟨ex', l1, l2⟩ := other_loop (n + 9) V Tb who hw (statS s) t ht w [0, 1, 2, 3] [] [] (fun o ho => ⟨by simp at ho; lia, by simp⟩) (by decide) (by decide) (.inl rfl)
  obtain ⟨ex'', m1, m2⟩ : ∃ o, ex' = [(nm "other", .frz (.str o))] ∧ True := by
    rcases l2 with ⟨h, _⟩ | ⟨o, h⟩
    · cases h
    · exact ⟨o, h, trivial⟩
  subst m1
  have l3 : ∀ exo, (exo = [] ∨ ∃ s, exo = [(nm "other", .frz (.str s))]) → ∃ o, forA (RR (n + 29)) (dF 11).sc ctW ctH (([0, 1, 2, 3] : List Nat).map fun o => .str (cs [o])) (tE V Tb who (statS s) (tZ t w ((nm "ahead", .own (.dict [])) :: exo))) = some (.next, tE V Tb who (statS s) (tZ t w [(nm "ahead", .own (.dict (dI (ahL t w who)))), (nm "other", .frz (.str o))])) := by
    intro exo ho
    obtain ⟨e', q1, q2⟩ := other_loop (n + 9) V Tb who hw (statS s) t ht w [0, 1, 2, 3] [] exo (fun o ho => ⟨by simp at ho; lia, by simp⟩) (by decide) (by decide) ho
    rcases q2 with ⟨h, _⟩ | ⟨o, rfl⟩
    · cases h
    · exact ⟨o, q1⟩
  have hcmp : cmpA .Eq (.dict (dI (ahL t w who))) (.dict []) = some (ahL t w who).isEmpty := by
    cases ahL t w who <;> rfl
  have hst : statS (cntS who s (t, w)) = stat ((if (ahL t w who).isEmpty then 1 else 0) + s.1) (1 + s.2.1) (w + s.2.2.1) (((ahL t w who).map (·.2)).sum + s.2.2.2.1) (dI ((ahL t w who).foldl addI s.2.2.2.2)) := rfl
  have hst0 : statS s = stat s.1 s.2.1 s.2.2.1 s.2.2.2.1 (dI s.2.2.2.2) := rfl
  rw [hst]
  rw [← hst0] at hafs
  generalize statS s = en at *
  clear hst hst0 hac l1 l2 hal
  generalize stat ((if (ahL t w who).isEmpty then 1 else 0) + s.1) (1 + s.2.1) (w + s.2.2.1) (((ahL t w who).map (·.2)).sum + s.2.2.2.1) (dI ((ahL t w who).foldl addI s.2.2.2.2)) = en2 at *
  generalize hemp : (ahL t w who).isEmpty = em at *
  generalize ((ahL t w who).map (·.2)).sum = sm at *
  generalize dI (ahL t w who) = AA at *
  -- the statement behind the loop
  have s3 : ∀ o, exsN (n + 29) (dF 11).sc (tE V Tb who en (tZ t w [(nm "ahead", .own (.dict AA)), (nm "other", .frz (.str o))])) (ctG.drop 2) = some (.next, tE V Tb who en2 (tZ t w [(nm "ahead", .frz (.dict AA)), (nm "other", .frz (.str o))])) := by
    intro o
    refine x_cons (x_name (n := n + 29) (v := en2) (ρ1 := tE V Tb who en (tZ t w [(nm "ahead", .frz (.dict AA)), (nm "other", .frz (.str o))])) rfl (by kernel_rfl) ?_ (by kernel_rfl)) x_nil
    refine e_call (n := n + 28) (vs := [en, stat (if em = true then 1 else 0) 1 w sm AA]) (by kernel_rfl) (by kernel_rfl) (evs_cons rfl (by kernel_rfl) (evs_cons rfl ?_ evs_nil)) hafs
    refine e_tup (n := n + 27) (vs := [.int (if em = true then 1 else 0), .int 1, .int w, .int sm, .dict AA]) (evs_cons rfl ?_ (evs_cons rfl (by kernel_rfl) (evs_cons rfl (by kernel_rfl) (evs_cons rfl (e_call (n := n + 26) (vs := [.dict AA]) (by kernel_rfl) (by kernel_rfl) (by kernel_rfl) hcc) (evs_cons rfl (by kernel_rfl) evs_nil))))) (by simp)
    refine e_if (n := n + 26) (t_cmp (n := n + 25) (A := ⟨.dict AA, false⟩) (B := ⟨.dict [], false⟩) rfl (by kernel_rfl) (by kernel_rfl) hcmp) ?_
    cases em with
    | true => rw [if_pos rfl, if_pos rfl]; kernel_rfl
    | false => rw [if_neg (by decide), if_neg (by decide)]; kernel_rfl
  rcases hex with rfl | ⟨t', w', A', o', rfl⟩
  · obtain ⟨o, l3⟩ := l3 [] (.inl rfl)
    refine ⟨tE V Tb who en (tZ t w []), tZ t w [(nm "ahead", .frz (.dict AA)), (nm "other", .frz (.str o))], by kernel_rfl, (ex_S (n := n + 29)).trans ?_, .inr ⟨_, _, _, _, rfl⟩⟩
    refine x_cons (ρ1 := tE V Tb who en (tZ t w [(nm "ahead", .own (.dict []))])) (x_fresh (n := n + 29) (ρ1 := tE V Tb who en (tZ t w [])) (v := .dict []) rfl (by kernel_rfl) (by kernel_rfl) (by kernel_rfl)) ?_
    exact x_cons (x_for (n := n + 29) (ρ1 := tE V Tb who en (tZ t w [(nm "ahead", .own (.dict []))])) (src := .str (cs [0, 1, 2, 3])) (by kernel_rfl) (by kernel_rfl) (by kernel_rfl) (by kernel_rfl) (by kernel_rfl) (by decide) l3) (s3 o)
  · obtain ⟨o, l3⟩ := l3 [(nm "other", .frz (.str o'))] (.inr ⟨_, rfl⟩)
    refine ⟨tE V Tb who en (tZ t w [(nm "ahead", .frz (.dict A')), (nm "other", .frz (.str o'))]), tZ t w [(nm "ahead", .frz (.dict AA)), (nm "other", .frz (.str o))], by kernel_rfl, (ex_S (n := n + 29)).trans ?_, .inr ⟨_, _, _, _, rfl⟩⟩
    refine x_cons (ρ1 := tE V Tb who en (tZ t w [(nm "ahead", .own (.dict [])), (nm "other", .frz (.str o'))])) (x_fresh (n := n + 29) (ρ1 := tE V Tb who en (tZ t w [(nm "ahead", .frz (.dict A')), (nm "other", .frz (.str o'))])) (v := .dict []) rfl (by kernel_rfl) (by kernel_rfl) (by kernel_rfl)) ?_
    exact x_cons (x_for (n := n + 29) (ρ1 := tE V Tb who en (tZ t w [(nm "ahead", .own (.dict [])), (nm "other", .frz (.str o'))])) (src := .str (cs [0, 1, 2, 3])) (by kernel_rfl) (by kernel_rfl) (by kernel_rfl) (by kernel_rfl) (by kernel_rfl) (by decide) l3) (s3 o)
end Mine.P

end

/-! part Cnt3 -/
section
set_option maxRecDepth 100000
set_option autoImplicit false
set_option linter.unusedVariables false
namespace Mine.P
open PySem

theorem putL_keys {α : Type} (k : Str) (v : α) : ∀ (D : List (Str × α)), (put D k v).map (·.1) = if k ∈ D.map (·.1) then D.map (·.1) else D.map (·.1) ++ [k]
  | [] => rfl
  | (y, u) :: r => by
    unfold put
    by_cases h : y = k
    · subst h; simp
    · rw [if_neg h, List.map_cons, putL_keys k v r]
      have : ¬ k = y := fun q => h q.symm
      by_cases hm : k ∈ r.map (·.1)
      · rw [if_pos hm, if_pos (by rw [List.map_cons]; exact List.mem_cons_of_mem _ hm)]; rfl
      · rw [if_neg hm, if_neg (by rw [List.map_cons, List.mem_cons, not_or]; exact ⟨this, hm⟩)]; rfl
theorem put_ndp {D : List (Str × Int)} (k : Str) (v : Int) (h : Ndp D) : Ndp (put D k v) := by
  unfold Ndp at *
  rw [putL_keys]
  split
  · exact h
  · rename_i hk
    rw [List.nodup_append]
    exact ⟨h, by simp, fun a ha b hb => by simp at hb; subst hb; exact fun e => hk (e ▸ ha)⟩
theorem addI_ndp {D : List (Str × Int)} (p : Str × Int) (h : Ndp D) : Ndp (addI D p) := put_ndp _ _ h
theorem addAll_ndp : ∀ (A D : List (Str × Int)), Ndp D → Ndp (A.foldl addI D) ∧ (A.foldl addI D).length ≤ D.length + A.length
  | [], D, h => ⟨h, by simp⟩
  | p :: A, D, h => by
    obtain ⟨h1, h2⟩ := addAll_ndp A (addI D p) (addI_ndp p h)
    have := addI_len D p
    rw [List.foldl_cons]
    exact ⟨h1, by simp only [List.length_cons]; lia⟩

theorem count_loop (n : Nat) (VV : List AV) (Tb : List (Str × AV)) (who : Nat) (hw : who < 4) : ∀ (V : List (List Nat × Int)) (s : Int × Int × Int × Int × List (Str × Int)) (ex : List (Str × Var)), (∀ v ∈ V, v.1 ∈ texts) → Ndp s.2.2.2.2 → s.2.2.2.2.length + 4 * V.length ≤ 900 → exV ex →
    ∃ ex', forA (RR (n + 30)) (dF 11).sc ctU ctG (V.map voteA) (tE VV Tb who (statS s) ex) = some (.next, tE VV Tb who (statS (V.foldl (cntS who) s)) ex') ∧ exV ex'
  | [], s, ex, h, hD, hl, hex => ⟨ex, f_nil, hex⟩
  | (t, w) :: V, s, ex, h, hD, hl, hex => by
    simp only [List.length_cons] at hl
    obtain ⟨ρ1, ex1, a1, b1, c1⟩ := count_turn n VV Tb who hw s hD (by lia) t (h _ List.mem_cons_self) w ex hex
    obtain ⟨d1, d2⟩ := addAll_ndp (ahL t w who) s.2.2.2.2 hD
    have d3 := ahL_len t w who
    obtain ⟨ex', i1, i2⟩ := count_loop n VV Tb who hw V (cntS who s (t, w)) ex1 (fun v hv => h v (List.mem_cons_of_mem _ hv)) d1 (by
      have : (cntS who s (t, w)).2.2.2.2.length ≤ s.2.2.2.2.length + (ahL t w who).length := d2
      lia) c1
    exact ⟨ex', f_next a1 b1 i1, i2⟩

noncomputable def cnt (V : List (List Nat × Int)) (who : Nat) : Int × Int × Int × Int × List (Str × Int) := V.foldl (cntS who) (0, 0, 0, 0, [])
noncomputable def uE (V : List AV) (Tb : List (Str × AV)) (ex : List (Str × Var)) : R := ⟨(nm "votes", .frz (.list V)) :: (nm "tables", .own (.dict Tb)) :: ex, []⟩
noncomputable def exU (ex : List (Str × Var)) : Prop := ex = [] ∨ ∃ who en ex1, ex = (nm "who", .frz (.str who)) :: (nm "entry", .frz en) :: ex1 ∧ exV ex1

theorem who_count (n : Nat) (V : List (List Nat × Int)) (hV : VotesOk V) (Tb : List (Str × AV)) (hT : Tb.length ≤ 4096) (who : Nat) (hw : who < 4) (ex : List (Str × Var)) (hex : exU ex) :
    ∃ ρ1 ex', assignA (dF 11).sc ctT (.str (cs [who])) (uE (V.map voteA) Tb ex) = some ρ1 ∧ (RR (n + 32)).ex (dF 11).sc ρ1 ctF = some (.next, uE (V.map voteA) (put Tb (cs [who]) (statS (cnt V who))) ex') ∧ exU ex' := by
  have hlen : (V.map voteA).length ≤ 4096 := by rw [List.length_map]; have := hV.len; lia
  have hst : storeA (.dict Tb) (.str (cs [who])) (statS (cnt V who)) = some (.dict (put Tb (cs [who]) (statS (cnt V who)))) := st_dict hT
  have loop : ∀ ex1, exV ex1 → ∃ ex', forA (RR (n + 31)) (dF 11).sc ctU ctG (V.map voteA) (tE (V.map voteA) Tb who (stat 0 0 0 0 []) ex1) = some (.next, tE (V.map voteA) Tb who (statS (cnt V who)) ex') ∧ exV ex' := fun ex1 h1 =>
    count_loop (n + 1) (V.map voteA) Tb who hw V (0, 0, 0, 0, []) ex1 (fun v hv => (hV.one v hv).1) (by unfold Ndp; simp) (by have := hV.len; simp; lia) h1
  generalize statS (cnt V who) = en at *
  generalize V.map voteA = VV at *
  generalize put Tb (cs [who]) en = Tb2 at *
  have fin : ∀ ex1, exV ex1 → exsN (n + 31) (dF 11).sc (tE VV Tb who en ex1) (ctF.drop 2) = some (.next, tE VV Tb2 who en ex1) := by
    intro ex1 h1
    refine x_cons (x_store (n := n + 31) (ρ1 := tE VV Tb who en ex1) (I := ⟨.str (cs [who]), false⟩) (v := en) (c := .dict Tb) ?_ (by kernel_rfl) (by kernel_rfl) (by kernel_rfl) (by kernel_rfl) hst (by kernel_rfl)) x_nil
    kernel_rfl
  have body : ∀ ρ1 ex1, exV ex1 → ex1N (n + 31) (dF 11).sc ρ1 (ctF.headD (.Break ⟨0, 0, 0, 0⟩)) = some (.next, tE VV Tb who (stat 0 0 0 0 []) ex1) → ∃ ex', (RR (n + 32)).ex (dF 11).sc ρ1 ctF = some (.next, tE VV Tb2 who en ex') ∧ exV ex' := by
    intro ρ1 ex1 h1 h2
    obtain ⟨ex', l1, l2⟩ := loop ex1 h1
    refine ⟨ex', (ex_S (n := n + 31)).trans ?_, l2⟩
    refine x_cons h2 ?_
    refine x_cons (x_for (n := n + 31) (ρ1 := tE VV Tb who (stat 0 0 0 0 []) ex1) (src := .list VV) (l := VV) (by kernel_rfl) (by kernel_rfl) ?_ (by kernel_rfl) (by kernel_rfl) hlen l1) (fin ex' l2)
    kernel_rfl
  rcases hex with rfl | ⟨who', en', ex1, rfl, h1⟩
  · obtain ⟨ex', b1, b2⟩ := body ⟨[(nm "votes", .frz (.list VV)), (nm "tables", .own (.dict Tb)), (nm "who", .frz (.str (cs [who])))], []⟩ [] (.inl rfl) (x_name (n := n + 31) (v := stat 0 0 0 0 []) (ρ1 := ⟨[(nm "votes", .frz (.list VV)), (nm "tables", .own (.dict Tb)), (nm "who", .frz (.str (cs [who])))], []⟩) rfl (by kernel_rfl) (by kernel_rfl) (by kernel_rfl))
    exact ⟨_, _, by kernel_rfl, b1, .inr ⟨_, _, _, rfl, b2⟩⟩
  · obtain ⟨ex', b1, b2⟩ := body (tE VV Tb who en' ex1) ex1 h1 (x_name (n := n + 31) (v := stat 0 0 0 0 []) (ρ1 := tE VV Tb who en' ex1) rfl (by kernel_rfl) (by kernel_rfl) (by kernel_rfl))
    exact ⟨_, _, by kernel_rfl, b1, .inr ⟨_, _, _, rfl, b2⟩⟩

noncomputable def tabD (f : Nat → AV) : List (Str × AV) := [0, 1, 2, 3].map fun who => (cs [who], f who)
theorem counted_fn (n : Nat) (V : List (List Nat × Int)) (hV : VotesOk V) : (RR (n + 35)).call (nm "_law_counted") [.frz (.list (V.map voteA))] = some (.dict (tabD fun who => statS (cnt V who)), none) := by
  have e : put (put (put (put [] (cs [0]) (statS (cnt V 0))) (cs [1]) (statS (cnt V 1))) (cs [2]) (statS (cnt V 2))) (cs [3]) (statS (cnt V 3)) = tabD fun who => statS (cnt V who) := by
    generalize hf : (fun who => statS (cnt V who)) = f
    have h : ∀ w, statS (cnt V w) = f w := fun w => by rw [← hf]
    rw [h 0, h 1, h 2, h 3]
    kernel_rfl
  have m1 := putL_len (cs [0]) (statS (cnt V 0)) []
  obtain ⟨ρ1, ex1, a1, t1, c1⟩ := who_count (n + 1) V hV [] (by simp) 0 (by decide) [] (.inl rfl)
  generalize put [] (cs [0]) (statS (cnt V 0)) = D1 at *
  simp only [List.length_nil] at m1
  have m2 := putL_len (cs [1]) (statS (cnt V 1)) D1
  obtain ⟨ρ2, ex2, a2, t2, c2⟩ := who_count (n + 1) V hV D1 (by lia) 1 (by decide) ex1 c1
  generalize put D1 (cs [1]) (statS (cnt V 1)) = D2 at *
  have m3 := putL_len (cs [2]) (statS (cnt V 2)) D2
  obtain ⟨ρ3, ex3, a3, t3, c3⟩ := who_count (n + 1) V hV D2 (by lia) 2 (by decide) ex2 c2
  generalize put D2 (cs [2]) (statS (cnt V 2)) = D3 at *
  obtain ⟨ρ4, ex4, a4, t4, c4⟩ := who_count (n + 1) V hV D3 (by lia) 3 (by decide) ex3 c3
  rw [e] at t4
  generalize tabD (fun who => statS (cnt V who)) = D4 at *
  generalize V.map voteA = VV at *
  refine call_frz (n := n + 34) (d := dF 11) (vs := [.list VV]) (fl := .ret (.dict D4)) (ρ' := ⟨(nm "votes", .frz (.list VV)) :: (nm "tables", .frz (.dict D4)) :: ex4, []⟩) (by kernel_rfl) (by kernel_rfl) ?_ rfl
  refine (ex_S (n := n + 33)).trans ?_
  refine x_cons (ρ1 := uE VV [] []) (x_fresh (n := n + 33) (ρ1 := ⟨[(nm "votes", .frz (.list VV))], []⟩) (v := .dict []) rfl (by kernel_rfl) (by kernel_rfl) (by kernel_rfl)) ?_
  refine x_cons (x_for (n := n + 33) (ρ1 := uE VV [] []) (src := .str (cs [0, 1, 2, 3])) (l := abcd) (by kernel_rfl) (by kernel_rfl) (by kernel_rfl) (by kernel_rfl) (by kernel_rfl) (by decide) (f_next a1 t1 (f_next a2 t2 (f_next a3 t3 (f_next a4 t4 f_nil))))) ?_
  exact x_out (by intro h; cases h) (x_ret (n := n + 33) (by kernel_rfl) (by kernel_rfl))
end Mine.P

end

/-! part Cnt4 -/
section
set_option maxRecDepth 100000
set_option autoImplicit false
set_option linter.unusedVariables false
namespace Mine.P
open PySem

/-! what the tables hold -/

theorem ah_self (t : List Nat) (x : Nat) : aheadB t x x = false := by
  unfold aheadB; simp
theorem ah_and (t : List Nat) (o who : Nat) : (decide (o ≠ who) && aheadB t o who) = aheadB t o who := by
  by_cases h : o = who
  · subst h; rw [ah_self]; simp
  · simp [h]
theorem ahd_eq (os t : List Nat) (w : Int) (who : Nat) : ahd os t w who = (os.filter fun o => aheadB t o who).map fun o => (cs [o], w) := by
  unfold ahd
  congr 1
  exact List.filter_congr fun o _ => ah_and t o who

theorem wgt_cons (t : List Nat) (w : Int) (V : List (List Nat × Int)) (x y : Nat) : wgt ((t, w) :: V) x y = (if aheadB t x y = true then w else 0) + wgt V x y := by
  unfold wgt wL
  simp only [List.filter_cons]
  by_cases h : aheadB t x y = true
  · rw [if_pos h, if_pos h]; simp
  · rw [if_neg h, if_neg h]; simp
theorem wgt_nonneg : ∀ (V : List (List Nat × Int)), (∀ v ∈ V, 1 ≤ v.2) → ∀ x y, 0 ≤ wgt V x y
  | [], h, x, y => by simp [wgt, wL]
  | (t, w) :: V, h, x, y => by
    rw [wgt_cons]
    have h1 := wgt_nonneg V (fun v hv => h v (List.mem_cons_of_mem _ hv)) x y
    have h2 : 1 ≤ w := h (t, w) List.mem_cons_self
    split <;> lia
theorem wgt_self : ∀ (V : List (List Nat × Int)) (x : Nat), wgt V x x = 0
  | [], x => rfl
  | (t, w) :: V, x => by
    rw [wgt_cons, wgt_self V x, ah_self]; rfl

theorem addI_look (N : List (Str × Int)) (p : Str × Int) (k : Str) : (addI N p).lookup k = if k = p.1 then some ((N.lookup k).getD 0 + p.2) else N.lookup k := by
  unfold addI
  rw [putL_look]
  by_cases h : k = p.1
  · rw [if_pos h, if_pos h, h]
    cases N.lookup p.1 <;> simp
  · rw [if_neg h, if_neg h]

noncomputable def comb (x : Option Int) (m : Int) : Option Int := if m = 0 then x else some (x.getD 0 + m)
theorem ahd_look (t : List Nat) (w : Int) (hw : 1 ≤ w) (who q : Nat) : ∀ (os : List Nat) (D : List (Str × Int)), os.Nodup → ((ahd os t w who).foldl addI D).lookup (cs [q]) = comb (D.lookup (cs [q])) (if q ∈ os ∧ aheadB t q who = true then w else 0)
  | [], D, hn => by simp [ahd, comb]
  | o :: os, D, hn => by
    obtain ⟨h1, h2⟩ := List.nodup_cons.mp hn
    rw [ahd_eq]
    simp only [List.filter_cons]
    by_cases ha : aheadB t o who = true
    · rw [if_pos ha, List.map_cons, List.foldl_cons, ← ahd_eq, ahd_look t w hw who q os _ h2, addI_look]
      by_cases hq : q = o
      · subst hq
        rw [if_pos rfl, if_neg (by intro h; exact h1 h.1), if_pos ⟨List.mem_cons_self, ha⟩]
        unfold comb
        rw [if_pos rfl, if_neg (by lia)]
      · rw [if_neg (by rw [cs1_inj]; exact hq)]
        congr 1
        simp [hq]
    · rw [if_neg ha, ← ahd_eq, ahd_look t w hw who q os _ h2]
      congr 1
      by_cases hq : q = o
      · subst hq; simp [ha]
      · simp [hq]
theorem comb_comb (x : Option Int) (m k : Int) (hm : 0 ≤ m) (hk : 0 ≤ k) : comb (comb x m) k = comb x (m + k) := by
  unfold comb
  by_cases h1 : m = 0
  · subst h1; simp
  · rw [if_neg h1]
    by_cases h2 : k = 0
    · subst h2; simp [h1]
    · rw [if_neg h2, if_neg (show ¬ m + k = 0 by lia)]
      simp; lia

theorem ahd_keys (os t : List Nat) (w : Int) (who : Nat) : ∀ (D : List (Str × Int)), (∀ o ∈ os, o < 4) → (∀ p ∈ D, ∃ o, o < 4 ∧ p.1 = cs [o]) → ∀ p ∈ (ahd os t w who).foldl addI D, ∃ o, o < 4 ∧ p.1 = cs [o] := by
  have gen : ∀ (A D : List (Str × Int)), (∀ p ∈ A, ∃ o, o < 4 ∧ p.1 = cs [o]) → (∀ p ∈ D, ∃ o, o < 4 ∧ p.1 = cs [o]) → ∀ p ∈ A.foldl addI D, ∃ o, o < 4 ∧ p.1 = cs [o] := by
    intro A
    induction A with
    | nil => intro D _ h; exact h
    | cons a A ih =>
      intro D hA hD
      rw [List.foldl_cons]
      refine ih (addI D a) (fun p hp => hA p (List.mem_cons_of_mem _ hp)) fun p hp => ?_
      have hk : p.1 ∈ (addI D a).map (·.1) := List.mem_map.mpr ⟨p, hp, rfl⟩
      unfold addI at hk
      rw [putL_keys] at hk
      have hin : p.1 ∈ D.map (·.1) ∨ p.1 = a.1 := by
        split at hk
        · exact .inl hk
        · simpa using hk
      rcases hin with h | h
      · obtain ⟨q, hq, e⟩ := List.mem_map.mp h
        rw [← e]; exact hD q hq
      · rw [h]; exact hA a List.mem_cons_self
  intro D ho hD
  refine gen _ D (fun p hp => ?_) hD
  unfold ahd at hp
  obtain ⟨o, h1, rfl⟩ := List.mem_map.mp hp
  exact ⟨o, ho o (List.mem_filter.mp h1).1, rfl⟩

noncomputable def headsN (V : List (List Nat × Int)) (who : Nat) : Nat := (V.filter fun v => decide (fnd v.1 who < 1)).length

theorem head_chk (t : List Nat) (ht : t ∈ texts) (who : Nat) (hw : who < 4) (w : Int) : (ahL t w who).isEmpty = decide (fnd t who < 1) := by
  have h : ∀ t ∈ texts, ∀ who, who < 4 → (([0, 1, 2, 3] : List Nat).filter fun o => aheadB t o who).isEmpty = decide (fnd t who < 1) := by decide +kernel
  unfold ahL
  rw [ahd_eq, ← h t ht who hw]
  cases ([0, 1, 2, 3] : List Nat).filter fun o => aheadB t o who <;> rfl

theorem sum_ahL (t : List Nat) (w : Int) (who : Nat) : ((ahL t w who).map (·.2)).sum = (if aheadB t 0 who = true then w else 0) + ((if aheadB t 1 who = true then w else 0) + ((if aheadB t 2 who = true then w else 0) + (if aheadB t 3 who = true then w else 0))) := by
  unfold ahL
  rw [ahd_eq]
  simp only [List.filter_cons, List.filter_nil]
  cases aheadB t 0 who <;> cases aheadB t 1 who <;> cases aheadB t 2 who <;> cases aheadB t 3 who <;> simp

structure CntOk (V : List (List Nat × Int)) (who : Nat) (s r : Int × Int × Int × Int × List (Str × Int)) : Prop where
  a : r.1 = s.1 + (headsN V who : Nat)
  b : r.2.1 = s.2.1 + (V.length : Nat)
  c : r.2.2.1 = s.2.2.1 + (V.map (·.2)).sum
  d : r.2.2.2.1 = s.2.2.2.1 + (wgt V 0 who + wgt V 1 who + wgt V 2 who + wgt V 3 who)
  nd : Ndp r.2.2.2.2
  look : ∀ q, q < 4 → r.2.2.2.2.lookup (cs [q]) = comb (s.2.2.2.2.lookup (cs [q])) (wgt V q who)
  keys : ∀ p ∈ r.2.2.2.2, ∃ o, o < 4 ∧ p.1 = cs [o]

theorem cnt_gen (who : Nat) (hw : who < 4) : ∀ (V : List (List Nat × Int)) (s : Int × Int × Int × Int × List (Str × Int)), (∀ v ∈ V, v.1 ∈ texts ∧ 1 ≤ v.2) → Ndp s.2.2.2.2 → (∀ p ∈ s.2.2.2.2, ∃ o, o < 4 ∧ p.1 = cs [o]) → CntOk V who s (V.foldl (cntS who) s)
  | [], s, h, hn, hk => ⟨by simp [headsN], by simp, by simp, by simp [wgt, wL], hn, fun q _ => by simp [wgt, wL, comb], hk⟩
  | (t, w) :: V, s, h, hn, hk => by
    obtain ⟨ht, hw1⟩ := h (t, w) List.mem_cons_self
    have hV : ∀ v ∈ V, v.1 ∈ texts ∧ 1 ≤ v.2 := fun v hv => h v (List.mem_cons_of_mem _ hv)
    have hn2 := (addAll_ndp (ahL t w who) s.2.2.2.2 hn).1
    have hk2 := ahd_keys [0, 1, 2, 3] t w who s.2.2.2.2 (by decide) hk
    have ih := cnt_gen who hw V (cntS who s (t, w)) hV hn2 hk2
    have hnn := wgt_nonneg V (fun v hv => (hV v hv).2)
    rw [List.foldl_cons]
    refine ⟨?_, ?_, ?_, ?_, ih.nd, fun q hq => ?_, ih.keys⟩
    · rw [ih.a]
      show (if (ahL t w who).isEmpty = true then (1 : Int) else 0) + s.1 + _ = _
      rw [head_chk t ht who hw w]
      unfold headsN
      simp only [List.filter_cons]
      by_cases h1 : decide (fnd t who < 1) = true
      · rw [if_pos h1, if_pos h1]; simp; lia
      · rw [if_neg h1, if_neg h1]; lia
    · rw [ih.b]
      show 1 + s.2.1 + _ = _
      simp; lia
    · rw [ih.c]
      show w + s.2.2.1 + _ = _
      simp; lia
    · rw [ih.d]
      show ((ahL t w who).map (·.2)).sum + s.2.2.2.1 + _ = _
      rw [sum_ahL]
      simp only [wgt_cons]
      lia
    · rw [ih.look q hq]
      show comb (((ahL t w who).foldl addI s.2.2.2.2).lookup (cs [q])) _ = _
      unfold ahL
      rw [ahd_look t w hw1 who q [0, 1, 2, 3] s.2.2.2.2 (by decide), comb_comb _ _ _ (by split <;> lia) (hnn q who), wgt_cons]
      congr 2
      have : q ∈ ([0, 1, 2, 3] : List Nat) := by simp; lia
      simp [this]

/-! the callers as they should be -/
noncomputable def calD (W : Nat → Int) : List (Str × Int) := (([0, 1, 2, 3] : List Nat).filter fun x => decide (0 < W x)).map fun x => (cs [x], W x)

theorem cal_look (W : Nat → Int) (q : Nat) : ∀ (l : List Nat), ((l.filter fun x => decide (0 < W x)).map fun x => (cs [x], W x)).lookup (cs [q]) = if q ∈ l ∧ 0 < W q then some (W q) else none
  | [] => by simp
  | x :: l => by
    simp only [List.filter_cons]
    by_cases h : decide (0 < W x) = true
    · rw [if_pos h, List.map_cons]
      dsimp only [List.lookup]
      by_cases hq : q = x
      · subst hq
        have : (cs [q] == cs [q]) = true := by simp
        rw [this]
        simp at h
        simp [h]
      · have : (cs [q] == cs [x]) = false := by
          rw [beq_eq_false_iff_ne]; intro e; exact hq (cs1_inj.mp e)
        rw [this]
        dsimp only
        rw [cal_look W q l]
        simp [hq]
    · rw [if_neg h, cal_look W q l]
      by_cases hq : q = x
      · subst hq
        simp at h
        have : ¬ 0 < W q := by lia
        simp [this]
      · simp [hq]

theorem look_mem {D : List (Str × Int)} (h : Ndp D) : ∀ p ∈ D, D.lookup p.1 = some p.2 := by
  induction D with
  | nil => intro p hp; cases hp
  | cons a D ih =>
    intro p hp
    unfold Ndp at h
    rw [List.map_cons, List.nodup_cons] at h
    obtain ⟨k, v⟩ := a
    rcases List.mem_cons.mp hp with rfl | hp
    · simp [List.lookup]
    · have hne : p.1 ≠ k := fun e => h.1 (List.mem_map.mpr ⟨p, hp, e⟩)
      have : (p.1 == k) = false := by rw [beq_eq_false_iff_ne]; exact hne
      simp only [List.lookup, this]
      exact ih h.2 p hp
theorem mem_look {D : List (Str × Int)} {k : Str} {v : Int} (h : D.lookup k = some v) : k ∈ D.map (·.1) := by
  induction D with
  | nil => cases h
  | cons a D ih =>
    obtain ⟨y, u⟩ := a
    rw [List.map_cons]
    by_cases e : k = y
    · exact List.mem_cons.mpr (.inl e)
    · have : (k == y) = false := by rw [beq_eq_false_iff_ne]; exact e
      simp only [List.lookup, this] at h
      exact List.mem_cons_of_mem _ (ih h)

theorem cal_ndp (W : Nat → Int) : Ndp (calD W) := by
  unfold Ndp calD
  rw [List.map_map]
  exact List.pairwise_map.mpr ((List.Pairwise.filter _ (show List.Pairwise (· ≠ ·) ([0, 1, 2, 3] : List Nat) by decide)).imp fun h e => h (cs1_inj.mp e))
theorem cal_eq (D : List (Str × Int)) (W : Nat → Int) (hn : Ndp D) (hW : ∀ q, 0 ≤ W q) (hl : ∀ q, q < 4 → D.lookup (cs [q]) = comb none (W q)) (hk : ∀ p ∈ D, ∃ o, o < 4 ∧ p.1 = cs [o]) : eqDict D (calD W) = true := by
  have look : ∀ q, q < 4 → (calD W).lookup (cs [q]) = if 0 < W q then some (W q) else none := by
    intro q hq
    unfold calD
    rw [cal_look]
    have : q ∈ ([0, 1, 2, 3] : List Nat) := by simp; lia
    simp [this]
  have hlook : ∀ q, q < 4 → D.lookup (cs [q]) = (calD W).lookup (cs [q]) := by
    intro q hq
    rw [hl q hq, look q hq]
    have := hW q
    unfold comb
    by_cases h0 : W q = 0
    · rw [if_pos h0, if_neg (by lia)]
    · rw [if_neg h0, if_pos (by lia)]; simp
  have hcn : Ndp (calD W) := cal_ndp W
  have hck : ∀ p ∈ calD W, ∃ o, o < 4 ∧ p.1 = cs [o] := by
    intro p hp
    unfold calD at hp
    obtain ⟨x, hx, rfl⟩ := List.mem_map.mp hp
    have := (List.mem_filter.mp hx).1
    exact ⟨x, by simp at this; lia, rfl⟩
  have hperm : (D.map (·.1)).Perm ((calD W).map (·.1)) := by
    rw [List.perm_ext_iff_of_nodup hn hcn]
    intro k
    constructor
    · intro h
      obtain ⟨p, hp, rfl⟩ := List.mem_map.mp h
      obtain ⟨o, ho, e⟩ := hk p hp
      have := look_mem hn p hp
      rw [e, hlook o ho] at this
      show p.1 ∈ _
      rw [e]
      exact mem_look this
    · intro h
      obtain ⟨p, hp, rfl⟩ := List.mem_map.mp h
      obtain ⟨o, ho, e⟩ := hck p hp
      have := look_mem hcn p hp
      rw [e, ← hlook o ho] at this
      show p.1 ∈ _
      rw [e]
      exact mem_look this
  have hlen := hperm.length_eq
  rw [List.length_map, List.length_map] at hlen
  unfold eqDict
  rw [Bool.and_eq_true]
  refine ⟨by simpa using hlen, ?_⟩
  rw [List.all_eq_true]
  intro p hp
  obtain ⟨o, ho, e⟩ := hk p hp
  have := look_mem hn p hp
  rw [e] at this ⊢
  rw [← hlook o ho, this]
  simp

theorem filt_sum (W : Nat → Int) (hW : ∀ q, 0 ≤ W q) : ∀ (l : List Nat), (((l.filter fun x => decide (0 < W x)).map fun x => (cs [x], W x)).map (·.2)).sum = (l.map W).sum
  | [] => rfl
  | x :: l => by
    have ih := filt_sum W hW l
    rw [List.map_cons, List.sum_cons, ← ih, List.filter_cons]
    by_cases h : 0 < W x
    · rw [if_pos (decide_eq_true h)]; rfl
    · rw [if_neg (by rw [decide_eq_false h]; decide), Int.le_antisymm (Int.not_lt.mp h) (hW x), Int.zero_add]
theorem cal_sum (W : Nat → Int) (hW : ∀ q, 0 ≤ W q) : ((calD W).map (·.2)).sum = W 0 + W 1 + W 2 + W 3 := by
  refine (filt_sum W hW [0, 1, 2, 3]).trans ?_
  show W 0 + (W 1 + (W 2 + (W 3 + 0))) = _
  rw [Int.add_zero, ← Int.add_assoc, ← Int.add_assoc]
end Mine.P

end

/-! part Law1 -/
section
set_option maxRecDepth 100000
set_option autoImplicit false
set_option linter.unusedVariables false
namespace Mine.P
open PySem

/-! law: the tables -/

noncomputable def yE (scr : AV) (V : List AV) (Tb Wd : List (Str × AV)) (ex : List (Str × Var)) : R := ⟨(nm "script", .frz scr) :: (nm "orders", .frz OO) :: (nm "votes", .frz (.list V)) :: (nm "tables", .frz (.dict Tb)) :: (nm "weights", .frz (.dict Wd)) :: ex, []⟩
noncomputable def yX (who : Nat) (C : Var) (h t : Int) : List (Str × Var) := [(nm "who", .frz (.str (cs [who]))), (nm "callers", C), (nm "heads", .frz (.int h)), (nm "total", .frz (.int t))]
noncomputable def lwF : List Stmt := match (dF 16).body.drop 4 with | .For _ _ b _ _ :: _ => b | _ => []
noncomputable def lwT : PySem.Expr := match (dF 16).body.drop 4 with | .For t _ _ _ _ :: _ => t | _ => .Constant .none 0 ⟨0, 0, 0, 0⟩
noncomputable def calE : PySem.Expr := match lwF with | .Assign _ e _ :: _ => e | _ => .Constant .none 0 ⟨0, 0, 0, 0⟩
noncomputable def calS : Scope := match calE with | .DictComp _ _ _ s _ => s | _ => (dF 16).sc
noncomputable def calK : PySem.Expr := match calE with | .DictComp k _ _ _ _ => k | _ => .Constant .none 0 ⟨0, 0, 0, 0⟩
noncomputable def calV : PySem.Expr := match calE with | .DictComp _ v _ _ _ => v | _ => .Constant .none 0 ⟨0, 0, 0, 0⟩
noncomputable def calT : PySem.Expr := match calE with | .DictComp _ _ [⟨t, _, _, _⟩] _ _ => t | _ => .Constant .none 0 ⟨0, 0, 0, 0⟩
noncomputable def calI : PySem.Expr := match calE with | .DictComp _ _ [⟨_, _, [i], _⟩] _ _ => i | _ => .Constant .none 0 ⟨0, 0, 0, 0⟩

theorem wD_look (W : Nat → Nat → Int) {x y : Nat} (hx : x < 4) (hy : y < 4) : (wD W).lookup (cs [x, y]) = some (.int (W x y)) := by
  have h : p16.map (fun p : Nat × Nat => (wD W).lookup (cs [p.1, p.2])) = mapG (fun p : Nat × Nat => some (AV.int (W p.1 p.2))) p16 := by kernel_rfl
  exact of_map h (x, y) (mem16 hx hy)

noncomputable def gC (W : Nat → Int) : AV → Option (Str × AV) := fun v => match v with
  | .str s => if decide (0 < W (s.cps.toList.headD 0 - 97)) = true then some (s, .int (W (s.cps.toList.headD 0 - 97))) else none
  | _ => none

theorem cal_step (n : Nat) (ρ0 : R) (Wd : List (Str × AV)) (W : Nat → Nat → Int) (who x : Nat) (scr : AV) (V : List AV) (Tb : List (Str × AV)) (ex : List (Str × Var)) (hex : ex = [] ∨ ∃ C h t, ex = [(nm "callers", C), (nm "heads", h), (nm "total", t)]) (hl : Wd.lookup (cs [x, who]) = some (.int (W x who))) :
    stepG (RR (n + 20)) ⟨(dF 16).sc, some calS⟩ (emitD (RR (n + 20)) ⟨(dF 16).sc, some calS⟩ calK calV) calT [calI] { yE scr V Tb Wd ((nm "who", .frz (.str (cs [who]))) :: ex) with comp := [] } (.str (cs [x])) = some (gC (fun x => W x who) (.str (cs [x]))) := by
  have hx' : ((cs [x]).cps.toList.headD 0 - 97) = x := by simp [cs]
  have hg : gC (fun x => W x who) (.str (cs [x])) = if decide (0 < W x who) = true then some (cs [x], .int (W x who)) else none := by
    unfold gC
    dsimp only
    rw [hx']
  rw [hg]
  let ρ1 : R := { yE scr V Tb Wd ((nm "who", .frz (.str (cs [who]))) :: ex) with comp := [(nm "x", .str (cs [x]))] }
  have hv : ∀ m, (RR (m + 12)).ev ⟨(dF 16).sc, some calS⟩ ρ1 calV = some ⟨.int (W x who), false⟩ := fun m =>
    e_sub (n := m + 11) (A := ⟨.dict Wd, false⟩) (B := ⟨.str (cs [x, who]), false⟩) rfl (by kernel_rfl) (e_bin (n := m + 10) (A := ⟨.str (cs [x]), false⟩) (B := ⟨.str (cs [who]), false⟩) (by kernel_rfl) (by kernel_rfl) (add_cs x who)) hl
  have ht : (RR (n + 20)).ts ⟨(dF 16).sc, some calS⟩ ρ1 calI = some (decide (0 < W x who)) :=
    t_cmp (n := n + 19) (A := ⟨.int (W x who), false⟩) (B := ⟨.int 0, false⟩) rfl (e_sub (n := n + 18) (A := ⟨.dict Wd, false⟩) (B := ⟨.str (cs [x, who]), false⟩) rfl (by kernel_rfl) (e_bin (n := n + 17) (A := ⟨.str (cs [x]), false⟩) (B := ⟨.str (cs [who]), false⟩) (by kernel_rfl) (by kernel_rfl) (add_cs x who)) hl) (by kernel_rfl) rfl
  cases hb : decide (0 < W x who) with
  | true => rw [hb] at ht; rw [if_pos rfl]; exact step_yes (ρ1 := ρ1) (by kernel_rfl) (ts_one ht) (emitD_of (o := false) (by kernel_rfl) (hv (n + 8)))
  | false => rw [hb] at ht; rw [if_neg (by decide)]; exact step_no (ρ1 := ρ1) (by kernel_rfl) (ts_one ht)

theorem gC_map (W : Nat → Int) : ∀ (l : List Nat), (l.map fun x => AV.str (cs [x])).filterMap (gC W) = dI ((l.filter fun x => decide (0 < W x)).map fun x => (cs [x], W x))
  | [] => rfl
  | x :: l => by
    have hx' : ((cs [x]).cps.toList.headD 0 - 97) = x := by simp [cs]
    have hg : gC W (.str (cs [x])) = if decide (0 < W x) = true then some (cs [x], .int (W x)) else none := by
      unfold gC
      dsimp only
      rw [hx']
    rw [List.map_cons, List.filterMap_cons, hg, List.filter_cons, gC_map W l]
    by_cases h : decide (0 < W x) = true
    · rw [if_pos h, if_pos h]; rfl
    · rw [if_neg h, if_neg h]
theorem gC_cal (W : Nat → Int) : (abcd.filterMap (gC W)).foldl (fun d p => put d p.1 p.2) [] = dI (calD W) := by
  have e : abcd.filterMap (gC W) = dI (calD W) := gC_map W [0, 1, 2, 3]
  have nd : Ndp (calD W) := cal_ndp W
  have gen : ∀ (l N : List (Str × Int)), (dI l).foldl (fun d p => put d p.1 p.2) (dI N) = dI (l.foldl (fun d p => put d p.1 p.2) N) := by
    intro l
    induction l with
    | nil => intro N; rfl
    | cons p l ih =>
      intro N
      rw [List.foldl_cons, ← ih, dI_put]; rfl
  rw [e]
  have := gen (calD W) []
  rw [copy_ok (calD W) [] (by simpa using nd), List.nil_append] at this
  exact this

theorem cal_ev (n : Nat) (W : Nat → Nat → Int) (who : Nat) (hw : who < 4) (scr : AV) (V : List AV) (Tb : List (Str × AV)) (ex : List (Str × Var)) (hex : ex = [] ∨ ∃ C h t, ex = [(nm "callers", C), (nm "heads", h), (nm "total", t)]) :
    (RR (n + 21)).ev ⟨(dF 16).sc, none⟩ (yE scr V Tb (wD W) ((nm "who", .frz (.str (cs [who]))) :: ex)) calE = some ⟨.dict (dI (calD fun x => W x who)), false⟩ := by
  rw [← gC_cal]
  refine e_dc (n := n + 20) (src := .str (cs [0, 1, 2, 3])) (l := abcd) (by kernel_rfl) (by kernel_rfl) (by kernel_rfl) (by decide) rfl fun v hv => ?_
  have hl : ∀ x, x < 4 → (wD W).lookup (cs [x, who]) = some (.int (W x who)) := fun x hx => wD_look W hx hw
  generalize wD W = Wd at *
  simp only [abcd, List.mem_cons, List.not_mem_nil, or_false] at hv
  rcases hv with rfl | rfl | rfl | rfl
  · exact cal_step n ⟨[], []⟩ Wd W who 0 scr V Tb ex hex (hl 0 (by decide))
  · exact cal_step n ⟨[], []⟩ Wd W who 1 scr V Tb ex hex (hl 1 (by decide))
  · exact cal_step n ⟨[], []⟩ Wd W who 2 scr V Tb ex hex (hl 2 (by decide))
  · exact cal_step n ⟨[], []⟩ Wd W who 3 scr V Tb ex hex (hl 3 (by decide))

/-! heads and total -/
noncomputable def hdE : PySem.Expr := match lwF with | _ :: .Assign _ (.Call _ [e] _ _) _ :: _ => e | _ => .Constant .none 0 ⟨0, 0, 0, 0⟩
noncomputable def ttE : PySem.Expr := match lwF with | _ :: _ :: .Assign _ (.Call _ [e] _ _) _ :: _ => e | _ => .Constant .none 0 ⟨0, 0, 0, 0⟩
noncomputable def hdS : Scope := match hdE with | .ListComp _ _ s _ => s | _ => (dF 16).sc
noncomputable def hdI : PySem.Expr := match hdE with | .ListComp _ [⟨_, _, [i], _⟩] _ _ => i | _ => .Constant .none 0 ⟨0, 0, 0, 0⟩

noncomputable def gH (who : Nat) : AV → Option AV
  | .tup [.str s, _] => if decide (fnd (dec s) who < 1) = true then some (.str s) else none
  | _ => none
theorem gH_len (who : Nat) : ∀ (V : List (List Nat × Int)), ((V.map voteA).filterMap (gH who)).length = headsN V who
  | [] => rfl
  | (t, w) :: V => by
    rw [List.map_cons, List.filterMap_cons]
    have : gH who (voteA (t, w)) = if decide (fnd t who < 1) = true then some (.str (cs t)) else none := by
      simp only [voteA, gH]
      rw [dec_cs]
    rw [this]
    have ih := gH_len who V
    unfold headsN at *
    simp only [List.filter_cons]
    by_cases h : decide (fnd t who < 1) = true
    · rw [if_pos h, if_pos h]; simpa using ih
    · rw [if_neg h, if_neg h]; exact ih

theorem heads_ev (n : Nat) (V : List (List Nat × Int)) (hV : VotesOk V) (who : Nat) (hw : who < 4) (scr : AV) (Tb Wd : List (Str × AV)) (C : Var) (ex : List (Str × Var)) (hex : ex = [] ∨ ∃ h t, ex = [(nm "heads", h), (nm "total", t)]) :
    (RR (n + 20)).ev ⟨(dF 16).sc, none⟩ (yE scr (V.map voteA) Tb Wd ((nm "who", .frz (.str (cs [who]))) :: (nm "callers", C) :: ex)) hdE = some ⟨.list ((V.map voteA).filterMap (gH who)), false⟩ := by
  have hlen : (V.map voteA).length ≤ 4096 := by rw [List.length_map]; have := hV.len; lia
  refine e_lc (n := n + 19) (src := .list (V.map voteA)) (by kernel_rfl) (by kernel_rfl) (by kernel_rfl) hlen rfl fun v hv => ?_
  obtain ⟨⟨t, w⟩, hm, rfl⟩ := List.mem_map.mp hv
  have hf := find_ok (hV.one _ hm).1 hw
  have hg : gH who (voteA (t, w)) = if decide (fnd t who < 1) = true then some (.str (cs t)) else none := by
    simp only [voteA, gH]
    rw [dec_cs]
  rw [hg]
  generalize V.map voteA = VV at *
  let ρ1 : R := ⟨(yE scr VV Tb Wd ((nm "who", .frz (.str (cs [who]))) :: (nm "callers", C) :: ex)).vars, [(nm "weight", .int w), (nm "text", .str (cs t))]⟩
  have ht : (RR (n + 19)).ts ⟨(dF 16).sc, some hdS⟩ ρ1 hdI = some (decide (fnd t who < 1)) :=
    t_cmp (n := n + 18) (A := ⟨.int (fnd t who), false⟩) (B := ⟨.int 1, false⟩) rfl (e_meth (n := n + 17) (A := ⟨.str (cs t), false⟩) (vs := [.str (cs [who])]) (by kernel_rfl) (by kernel_rfl) rfl (evs_cons rfl (by kernel_rfl) evs_nil) hf rfl) (by kernel_rfl) rfl
  cases hb : decide (fnd t who < 1) with
  | true => rw [hb] at ht; rw [if_pos rfl]; exact step_yes (ρ1 := ρ1) (by kernel_rfl) (ts_one ht) (by kernel_rfl)
  | false => rw [hb] at ht; rw [if_neg (by decide)]; exact step_no (ρ1 := ρ1) (by kernel_rfl) (ts_one ht)

noncomputable def gT : AV → Option AV
  | .tup [_, w] => some w
  | _ => none
theorem gT_map : ∀ (V : List (List Nat × Int)), (V.map voteA).filterMap gT = (V.map (·.2)).map .int
  | [] => rfl
  | (t, w) :: V => by
    rw [List.map_cons, List.filterMap_cons, gT_map V]; rfl

theorem total_ev (n : Nat) (V : List (List Nat × Int)) (hV : VotesOk V) (who : Nat) (scr : AV) (Tb Wd : List (Str × AV)) (C : Var) (h : Var) (ex : List (Str × Var)) (hex : ex = [] ∨ ∃ t, ex = [(nm "total", t)]) :
    (RR (n + 20)).ev ⟨(dF 16).sc, none⟩ (yE scr (V.map voteA) Tb Wd ((nm "who", .frz (.str (cs [who]))) :: (nm "callers", C) :: (nm "heads", h) :: ex)) ttE = some ⟨.list ((V.map (·.2)).map .int), false⟩ := by
  have hlen : (V.map voteA).length ≤ 4096 := by rw [List.length_map]; have := hV.len; lia
  rw [← gT_map]
  refine e_lc (n := n + 19) (src := .list (V.map voteA)) (by kernel_rfl) (by kernel_rfl) (by kernel_rfl) hlen rfl fun v hv => ?_
  obtain ⟨⟨t, w⟩, hm, rfl⟩ := List.mem_map.mp hv
  generalize V.map voteA = VV at *
  exact step_yes (ρ1 := ⟨(yE scr VV Tb Wd ((nm "who", .frz (.str (cs [who]))) :: (nm "callers", C) :: (nm "heads", h) :: ex)).vars, [(nm "weight", .int w), (nm "text", .str (cs t))]⟩) (by kernel_rfl) rfl (by kernel_rfl)
end Mine.P

end

/-! part Law2 -/
section
set_option maxRecDepth 100000
set_option autoImplicit false
set_option linter.unusedVariables false
namespace Mine.P
open PySem

theorem tabD_look (f : Nat → AV) (x : Nat) (hx : x < 4) : (tabD f).lookup (cs [x]) = some (f x) :=
  lt4 (p := fun x => (tabD f).lookup (cs [x]) = some (f x)) (by kernel_rfl) (by kernel_rfl) (by kernel_rfl) (by kernel_rfl) x hx

theorem wgt_le : ∀ (V : List (List Nat × Int)), (∀ v ∈ V, 1 ≤ v.2 ∧ v.2 ≤ 5) → ∀ x y, wgt V x y ≤ 5 * V.length
  | [], h, x, y => by simp [wgt, wL]
  | (t, w) :: V, h, x, y => by
    rw [wgt_cons]
    have h1 := wgt_le V (fun v hv => h v (List.mem_cons_of_mem _ hv)) x y
    have h2 := h (t, w) List.mem_cons_self
    simp only [List.length_cons]
    dsimp only at h2
    split <;> lia

theorem cnt_ok (V : List (List Nat × Int)) (hV : VotesOk V) (who : Nat) (hw : who < 4) : CntOk V who (0, 0, 0, 0, []) (cnt V who) :=
  cnt_gen who hw V (0, 0, 0, 0, []) (fun v hv => ⟨(hV.one v hv).1, (hV.one v hv).2.1⟩) (by unfold Ndp; simp) (fun p hp => nomatch hp)

theorem dictInts_dI : ∀ (D : List (Str × Int)), dictInts (dI D) = some D
  | [] => rfl
  | (k, v) :: D => bndI rfl (mpdI (dictInts_dI D))

theorem sum_values (D : List (Str × Int)) (h : ∀ p ∈ D, 0 ≤ p.2 ∧ p.2 < 1000000) (hl : D.length ≤ 4096) (o : Bool) : builtinA (nm "sum") [⟨.values (dI D), o⟩] = some (.int (D.map (·.2)).sum) := by
  have hs : (D.map (·.2)).all small = true := by
    rw [List.all_eq_true]
    intro w hw
    obtain ⟨p, hp, rfl⟩ := List.mem_map.mp hw
    have := h p hp
    exact small_of (by lia) (by lia)
  have h1 : sumA (.values (dI D)) = some (.int (D.map (·.2)).sum) := bndI (dictInts_dI D) (ifsI ⟨hs, hl⟩ rfl)
  exact eif (by decide) (eif (by decide) (bndI (a := ⟨.values (dI D), o⟩) rfl (eif (by decide) (eif (by decide) (tif rfl h1)))))

theorem stat_ne (a b c d a' b' c' d' : Int) (D D' : List (Str × Int)) : cmpA .NotEq (stat a b c d (dI D)) (.tup [.int a', .int b', .int c', .int d', .dict (dI D')]) = some (!(decide (a = a') && (decide (b = b') && (decide (c = c') && (decide (d = d') && (eqDict D D' && true)))))) := by
  have l5 : eqFlat [.dict (dI D)] [.dict (dI D')] = some (eqDict D D' && true) := by
    show (dictInts (dI D)).bind (fun x => (dictInts (dI D')).bind fun y => (some true).map (eqDict x y && ·)) = _
    exact bndI (dictInts_dI D) (bndI (dictInts_dI D') rfl)
  exact congrArg (Option.map (!·)) (congrArg (Option.map (decide (a = a') && ·)) (congrArg (Option.map (decide (b = b') && ·)) (congrArg (Option.map (decide (c = c') && ·)) (congrArg (Option.map (decide (d = d') && ·)) l5))))

noncomputable def exL1 (ex : List (Str × Var)) : Prop := ∃ a b c d, ex = [(nm "who", a), (nm "callers", .frz b), (nm "heads", .frz c), (nm "total", .frz d)] ∧ ∃ w, a = .frz w
noncomputable def exL (ex : List (Str × Var)) : Prop := ex = [] ∨ exL1 ex

theorem check_turn (n : Nat) (V : List (List Nat × Int)) (hV : VotesOk V) (who : Nat) (hw : who < 4) (scr : AV) (ex : List (Str × Var)) (hex : exL ex) :
    ∃ ρ1 ex', assignA (dF 16).sc lwT (.str (cs [who])) (yE scr (V.map voteA) (tabD fun who => statS (cnt V who)) (wD (wgt V)) ex) = some ρ1 ∧ (RR (n + 26)).ex (dF 16).sc ρ1 lwF = some (.next, yE scr (V.map voteA) (tabD fun who => statS (cnt V who)) (wD (wgt V)) ex') ∧ exL1 ex' := by
  have C := cnt_ok V hV who hw
  have hW : ∀ q, 0 ≤ wgt V q who := fun q => wgt_nonneg V (fun v hv => (hV.one v hv).2.1) q who
  have hWl : ∀ q, wgt V q who ≤ 30 := fun q => by
    have := wgt_le V (fun v hv => (hV.one v hv).2) q who
    have := hV.len
    lia
  have heq := cal_eq (cnt V who).2.2.2.2 (fun x => wgt V x who) C.nd hW (fun q hq => C.look q hq) C.keys
  have hsum := cal_sum (fun x => wgt V x who) hW
  have hcl : (calD fun x => wgt V x who).length ≤ 4096 := by
    unfold calD
    rw [List.length_map]
    exact Nat.le_trans (List.length_filter_le _ _) (by decide)
  have hsv := sum_values (calD fun x => wgt V x who) (fun p hp => by
    unfold calD at hp
    obtain ⟨x, hx, rfl⟩ := List.mem_map.mp hp
    have h1 := hW x
    have h2 := hWl x
    dsimp only
    lia) hcl false
  have hh : headsN V who ≤ 6 := Nat.le_trans (List.length_filter_le _ _) hV.len
  have htot := sum_built (V.map (·.2)) (fun w hw => by
    obtain ⟨v, hv, rfl⟩ := List.mem_map.mp hw
    exact (hV.one v hv).2) (by rw [List.length_map]; have := hV.len; lia) false
  have hVl : lenA (.list (V.map voteA)) = some (V.length : Int) := congrArg (fun n : Nat => some (n : Int)) (List.length_map ..)
  have hVs := hV.len
  have hgl : lenA (.list ((V.map voteA).filterMap (gH who))) = some (headsN V who : Int) := congrArg (fun n : Nat => some (n : Int)) (gH_len ..)
  have lk := tabD_look (fun who => statS (cnt V who)) who hw
  -- the comparison
  have hcmp : cmpA .NotEq (statS (cnt V who)) (.tup [.int (headsN V who), .int V.length, .int (V.map (·.2)).sum, .int ((calD fun x => wgt V x who).map (·.2)).sum, .dict (dI (calD fun x => wgt V x who))]) = some false := by
    have e1 := C.a
    have e2 := C.b
    have e3 := C.c
    have e4 := C.d
    refine (stat_ne ..).trans ?_
    rw [heq, e1, e2, e3, e4, hsum]
    simp
  let es0 : List (Str × Var) := [(nm "who", .frz (.str (cs [who])))]
  have cal : ∀ exc, (exc = [] ∨ ∃ C h t, exc = [(nm "callers", C), (nm "heads", h), (nm "total", t)]) → (RR (n + 25)).ev ⟨(dF 16).sc, none⟩ (yE scr (V.map voteA) (tabD fun who => statS (cnt V who)) (wD (wgt V)) ((nm "who", .frz (.str (cs [who]))) :: exc)) calE = some ⟨.dict (dI (calD fun x => wgt V x who)), false⟩ := fun exc h => cal_ev (n + 4) (wgt V) who hw scr (V.map voteA) (tabD fun who => statS (cnt V who)) exc h
  have hds : ∀ c exc, (exc = [] ∨ ∃ h t, exc = [(nm "heads", h), (nm "total", t)]) → (RR (n + 24)).ev ⟨(dF 16).sc, none⟩ (yE scr (V.map voteA) (tabD fun who => statS (cnt V who)) (wD (wgt V)) ((nm "who", .frz (.str (cs [who]))) :: (nm "callers", c) :: exc)) hdE = some ⟨.list ((V.map voteA).filterMap (gH who)), false⟩ := fun c exc h => heads_ev (n + 4) V hV who hw scr _ _ c exc h
  have tts : ∀ c hh exc, (exc = [] ∨ ∃ t, exc = [(nm "total", t)]) → (RR (n + 24)).ev ⟨(dF 16).sc, none⟩ (yE scr (V.map voteA) (tabD fun who => statS (cnt V who)) (wD (wgt V)) ((nm "who", .frz (.str (cs [who]))) :: (nm "callers", c) :: (nm "heads", hh) :: exc)) ttE = some ⟨.list ((V.map (·.2)).map .int), false⟩ := fun c hh exc h => total_ev (n + 4) V hV who scr _ _ c hh exc h
  clear heq C hsum hW hWl hcl
  generalize hst : statS (cnt V who) = stt at *
  generalize (tabD fun who => statS (cnt V who)) = Tb at *
  generalize wD (wgt V) = Wd at *
  generalize hcs : ((calD fun x => wgt V x who).map (·.2)).sum = cs' at *
  generalize dI (calD fun x => wgt V x who) = CC at *
  generalize hts : (V.map (·.2)).sum = ts at *
  generalize (V.map (·.2)).map AV.int = tl at *
  generalize headsN V who = hn at *
  generalize (V.map voteA).filterMap (gH who) = hl at *
  generalize V.length = vl at *
  generalize V.map voteA = VV at *
  -- behind the first statement
  have s4 : exsN (n + 25) (dF 16).sc (yE scr VV Tb Wd (yX who (.own (.dict CC)) hn ts)) (lwF.drop 3) = some (.next, yE scr VV Tb Wd (yX who (.frz (.dict CC)) hn ts)) := by
    refine x_cons (x_if (n := n + 25) (ρ1 := yE scr VV Tb Wd (yX who (.frz (.dict CC)) hn ts)) (c := false) (by kernel_rfl) ?_ ?_) x_nil
    · refine t_cmp (n := n + 24) (A := ⟨stt, false⟩) (B := ⟨.tup [.int hn, .int vl, .int ts, .int cs', .dict CC], false⟩) rfl (e_sub (n := n + 23) (A := ⟨.dict Tb, false⟩) (B := ⟨.str (cs [who]), false⟩) rfl (by kernel_rfl) (by kernel_rfl) (lk.trans (by first | rfl | rw [hst]))) ?_ hcmp
      refine e_tup (n := n + 23) (evs_cons rfl (by kernel_rfl) (evs_cons rfl (e_len2 (n := n + 22) (v := .list VV) (o := false) (by kernel_rfl) rfl (by kernel_rfl) hVl (by lia)) (evs_cons rfl (by kernel_rfl) (evs_cons rfl (e_built (n := n + 22) (vs := [⟨.values CC, false⟩]) (by kernel_rfl) (by kernel_rfl) (by kernel_rfl) hsv) (evs_cons rfl (by kernel_rfl) evs_nil))))) (by simp)
    · rw [if_neg (by decide)]
      exact (ex_S (n := n + 24)).trans x_nil
  rcases hex with rfl | ⟨a, b, c, d, rfl, w, rfl⟩
  · refine ⟨yE scr VV Tb Wd [(nm "who", .frz (.str (cs [who])))], yX who (.frz (.dict CC)) hn ts, by kernel_rfl, (ex_S (n := n + 25)).trans ?_, ⟨_, _, _, _, rfl, _, rfl⟩⟩
    refine x_cons (ρ1 := yE scr VV Tb Wd [(nm "who", .frz (.str (cs [who]))), (nm "callers", .own (.dict CC))]) (x_fresh (n := n + 25) (ρ1 := yE scr VV Tb Wd [(nm "who", .frz (.str (cs [who])))]) rfl (by kernel_rfl) (cal [] (.inl rfl)) (by kernel_rfl)) ?_
    refine x_cons (ρ1 := yE scr VV Tb Wd [(nm "who", .frz (.str (cs [who]))), (nm "callers", .own (.dict CC)), (nm "heads", .frz (.int hn))]) (x_name (n := n + 25) (v := .int hn) (ρ1 := yE scr VV Tb Wd [(nm "who", .frz (.str (cs [who]))), (nm "callers", .own (.dict CC))]) rfl (by kernel_rfl) (e_len2 (n := n + 24) (v := .list hl) (o := false) (by kernel_rfl) rfl (hds _ [] (.inl rfl)) hgl (by lia)) (by kernel_rfl)) ?_
    exact x_cons (x_name (n := n + 25) (v := .int ts) (ρ1 := yE scr VV Tb Wd [(nm "who", .frz (.str (cs [who]))), (nm "callers", .own (.dict CC)), (nm "heads", .frz (.int hn))]) rfl (by kernel_rfl) (e_built (n := n + 24) (vs := [⟨.list tl, false⟩]) (by kernel_rfl) (by kernel_rfl) (evrs_cons rfl (tts _ _ [] (.inl rfl)) evrs_nil) htot) (by kernel_rfl)) s4
  · refine ⟨yE scr VV Tb Wd ((nm "who", .frz (.str (cs [who]))) :: [(nm "callers", .frz b), (nm "heads", .frz c), (nm "total", .frz d)]), yX who (.frz (.dict CC)) hn ts, by kernel_rfl, (ex_S (n := n + 25)).trans ?_, ⟨_, _, _, _, rfl, _, rfl⟩⟩
    refine x_cons (ρ1 := yE scr VV Tb Wd [(nm "who", .frz (.str (cs [who]))), (nm "callers", .own (.dict CC)), (nm "heads", .frz c), (nm "total", .frz d)]) (x_fresh (n := n + 25) (ρ1 := yE scr VV Tb Wd [(nm "who", .frz (.str (cs [who]))), (nm "callers", .frz b), (nm "heads", .frz c), (nm "total", .frz d)]) rfl (by kernel_rfl) (cal _ (.inr ⟨_, _, _, rfl⟩)) (by kernel_rfl)) ?_
    refine x_cons (ρ1 := yE scr VV Tb Wd [(nm "who", .frz (.str (cs [who]))), (nm "callers", .own (.dict CC)), (nm "heads", .frz (.int hn)), (nm "total", .frz d)]) (x_name (n := n + 25) (v := .int hn) (ρ1 := yE scr VV Tb Wd [(nm "who", .frz (.str (cs [who]))), (nm "callers", .own (.dict CC)), (nm "heads", .frz c), (nm "total", .frz d)]) rfl (by kernel_rfl) (e_len2 (n := n + 24) (v := .list hl) (o := false) (by kernel_rfl) rfl (hds _ _ (.inr ⟨_, _, rfl⟩)) hgl (by lia)) (by kernel_rfl)) ?_
    exact x_cons (x_name (n := n + 25) (v := .int ts) (ρ1 := yE scr VV Tb Wd [(nm "who", .frz (.str (cs [who]))), (nm "callers", .own (.dict CC)), (nm "heads", .frz (.int hn)), (nm "total", .frz d)]) rfl (by kernel_rfl) (e_built (n := n + 24) (vs := [⟨.list tl, false⟩]) (by kernel_rfl) (by kernel_rfl) (evrs_cons rfl (tts _ _ _ (.inr ⟨_, rfl⟩)) evrs_nil) htot) (by kernel_rfl)) s4

/-! the heap -/
noncomputable def L0 (W : Nat → Nat → Int) : List Int := p12.map fun p => keyK W p.1 p.2
noncomputable def hpE : PySem.Expr := match (dF 16).body.drop 5 with | .Assign _ e _ :: _ => e | _ => .Constant .none 0 ⟨0, 0, 0, 0⟩
noncomputable def hpS : Scope := match hpE with | .ListComp _ _ s _ => s | _ => (dF 16).sc
noncomputable def hpX : PySem.Expr := match hpE with | .ListComp e _ _ _ => e | _ => .Constant .none 0 ⟨0, 0, 0, 0⟩
noncomputable def hpT : PySem.Expr := match hpE with | .ListComp _ [_, ⟨t, _, _, _⟩] _ _ => t | _ => .Constant .none 0 ⟨0, 0, 0, 0⟩
noncomputable def hpI : PySem.Expr := match hpE with | .ListComp _ [_, ⟨_, _, [i], _⟩] _ _ => i | _ => .Constant .none 0 ⟨0, 0, 0, 0⟩
noncomputable def hpG : PySem.Expr := match hpX with | .Tuple [.UnaryOp _ e _, _, _] _ _ => e | _ => .Constant .none 0 ⟨0, 0, 0, 0⟩

noncomputable def gX (W : Nat → Nat → Int) : AV → AV → Option AV := fun v u => match v, u with
  | .str s, .str t => if decide (s.cps.toList.headD 0 - 97 ≠ t.cps.toList.headD 0 - 97) = true then some (enc (keyK W (s.cps.toList.headD 0 - 97) (t.cps.toList.headD 0 - 97))) else none
  | _, _ => none
theorem gX_at (W : Nat → Nat → Int) (x y : Nat) : gX W (.str (cs [x])) (.str (cs [y])) = if decide (x ≠ y) = true then some (enc (keyK W x y)) else none := by
  have hx : ((cs [x]).cps.toList.headD 0 - 97) = x := by simp [cs]
  have hy : ((cs [y]).cps.toList.headD 0 - 97) = y := by simp [cs]
  unfold gX
  dsimp only
  rw [hx, hy]
theorem gX_all (W : Nat → Nat → Int) : (abcd.flatMap fun v => abcd.filterMap (gX W v)) = (L0 W).map enc := by
  unfold abcd L0 p12
  dsimp only [List.flatMap_cons, List.flatMap_nil, List.filterMap_cons, List.filterMap_nil, gX_at, List.map_cons, List.map_nil]
  rfl

theorem get_eq (d : List (Str × AV)) (k : Str) (v : AV) : methA (nm "get") (.dict d) [.str k, v] = some ((d.lookup k).getD v) := by
  show dictM (nm "get") d [.str k, v] = _
  unfold dictM
  rw [if_pos rfl]; rfl
theorem heap_step (n : Nat) (V : List AV) (W : Nat → Nat → Int) (Tb Wd : List (Str × AV)) (scr : AV) (ex : List (Str × Var)) (x y : Nat) (hx : x < 4) (hy : y < 4) (a b c d : Int) (D : List (Str × Int)) (hT : Tb.lookup (cs [y]) = some (stat a b c d (dI D))) (hD : (D.lookup (cs [x])).getD 0 = W x y) :
    stepG (RR (n + 20)) ⟨(dF 16).sc, some hpS⟩ (emitL (RR (n + 20)) ⟨(dF 16).sc, some hpS⟩ hpX) hpT [hpI] ⟨(yE scr V Tb Wd ex).vars, [(nm "x", .str (cs [x]))]⟩ (.str (cs [y])) = some (gX W (.str (cs [x])) (.str (cs [y]))) := by
  rw [gX_at, enc_keyK W hx hy]
  let ρ1 : R := ⟨(yE scr V Tb Wd ex).vars, [(nm "y", .str (cs [y])), (nm "x", .str (cs [x]))]⟩
  have hne : cmpA .NotEq (.str (cs [x])) (.str (cs [y])) = some (decide (x ≠ y)) := by
    rw [c_sne]
    by_cases h : x = y
    · subst h; simp
    · have : ¬ cs [x] = cs [y] := fun q => h (cs1_inj.mp q)
      simp [h, this]
  have ht : (RR (n + 20)).ts ⟨(dF 16).sc, some hpS⟩ ρ1 hpI = some (decide (x ≠ y)) := t_cmp (n := n + 19) (A := ⟨.str (cs [x]), false⟩) (B := ⟨.str (cs [y]), false⟩) rfl (by kernel_rfl) (by kernel_rfl) hne
  have hget : methA (nm "get") (.dict (dI D)) [.str (cs [x]), .int 0] = some (.int (W x y)) := by
    rw [get_eq]
    rw [dI_look, ← hD]
    cases D.lookup (cs [x]) <;> rfl
  have hg : (RR (n + 18)).ev ⟨(dF 16).sc, some hpS⟩ ρ1 hpG = some ⟨.int (W x y), false⟩ := by
    refine e_meth (n := n + 17) (A := ⟨.dict (dI D), false⟩) (vs := [.str (cs [x]), .int 0]) (by kernel_rfl) ?_ rfl (by kernel_rfl) hget rfl
    exact e_sub (n := n + 16) (A := ⟨stat a b c d (dI D), false⟩) (B := ⟨.int 4, false⟩) rfl (e_sub (n := n + 15) (A := ⟨.dict Tb, false⟩) (B := ⟨.str (cs [y]), false⟩) rfl (by kernel_rfl) (by kernel_rfl) hT) (by kernel_rfl) (by kernel_rfl)
  cases hb : decide (x ≠ y) with
  | true =>
    rw [hb] at ht; rw [if_pos rfl]
    exact step_yes (ρ1 := ρ1) (by kernel_rfl) (ts_one ht) (emitL_of (e_tup (n := n + 19) (vs := [.int (-(W x y)), .str (cs [x]), .str (cs [y])]) (evs_cons rfl (e_neg (n := n + 18) hg) (evs_cons rfl (by kernel_rfl) (evs_cons rfl (by kernel_rfl) evs_nil))) (by simp)))
  | false => rw [hb] at ht; rw [if_neg (by decide)]; exact step_no (ρ1 := ρ1) (by kernel_rfl) (ts_one ht)

theorem heap_ev (n : Nat) (V : List (List Nat × Int)) (hV : VotesOk V) (scr : AV) (Wd : List (Str × AV)) (ex : List (Str × Var)) (hex : exL ex) :
    (RR (n + 21)).ev ⟨(dF 16).sc, none⟩ (yE scr (V.map voteA) (tabD fun who => statS (cnt V who)) Wd ex) hpE = some ⟨.list ((L0 (wgt V)).map enc), false⟩ := by
  rw [← gX_all]
  have key : ∀ x, x < 4 → ∀ y, y < 4 → stepG (RR (n + 20)) ⟨(dF 16).sc, some hpS⟩ (emitL (RR (n + 20)) ⟨(dF 16).sc, some hpS⟩ hpX) hpT [hpI] ⟨(yE scr (V.map voteA) (tabD fun who => statS (cnt V who)) Wd ex).vars, [(nm "x", .str (cs [x]))]⟩ (.str (cs [y])) = some (gX (wgt V) (.str (cs [x])) (.str (cs [y]))) := by
    intro x hx y hy
    have C := cnt_ok V hV y hy
    refine heap_step n _ (wgt V) _ Wd scr ex x y hx hy _ _ _ _ (cnt V y).2.2.2.2 (tabD_look (fun who => statS (cnt V who)) y hy) ?_
    rw [C.look x hx]
    show (comb none (wgt V x y)).getD 0 = _
    unfold comb
    split
    · rename_i h; rw [h]; rfl
    · simp
  generalize (tabD fun who => statS (cnt V who)) = Tb at *
  generalize V.map voteA = VV at *
  generalize hgw : gX (wgt V) = G at *
  refine e_lc2 (n := n + 20) (l := abcd) (l2 := abcd) (src := .str (cs [0, 1, 2, 3])) (by kernel_rfl) (by kernel_rfl) (by kernel_rfl) (by decide) (by decide) (by decide) rfl fun v hv => ?_
  obtain ⟨x, hx, rfl⟩ : ∃ x, x < 4 ∧ v = .str (cs [x]) := by
    simp only [abcd, List.mem_cons, List.not_mem_nil, or_false] at hv
    rcases hv with rfl | rfl | rfl | rfl
    · exact ⟨0, by decide, rfl⟩
    · exact ⟨1, by decide, rfl⟩
    · exact ⟨2, by decide, rfl⟩
    · exact ⟨3, by decide, rfl⟩
  refine ⟨⟨(yE scr VV Tb Wd ex).vars, [(nm "x", .str (cs [x]))]⟩, .str (cs [0, 1, 2, 3]), by kernel_rfl, by kernel_rfl, by kernel_rfl, rfl, fun u hu => ?_⟩
  obtain ⟨y, hy, rfl⟩ : ∃ y, y < 4 ∧ u = .str (cs [y]) := by
    simp only [abcd, List.mem_cons, List.not_mem_nil, or_false] at hu
    rcases hu with rfl | rfl | rfl | rfl
    · exact ⟨0, by decide, rfl⟩
    · exact ⟨1, by decide, rfl⟩
    · exact ⟨2, by decide, rfl⟩
    · exact ⟨3, by decide, rfl⟩
  exact key x hx y hy
end Mine.P

end

/-! part Law3 -/
section
set_option maxRecDepth 100000
set_option autoImplicit false
set_option linter.unusedVariables false
namespace Mine.P
open PySem

/-! law: heap, locked, judge, attained -/

theorem code_keyK (W : Nat → Nat → Int) {p : Nat × Nat} (hp : p ∈ p12) : codeOf (keyK W p.1 p.2) = p := by
  obtain ⟨hx, hy, _⟩ := p12_lt hp
  exact code_mod hx hy (by unfold keyK; lia)
theorem L0_codes (W : Nat → Nat → Int) : (L0 W).map codeOf = p12 := by
  unfold L0
  rw [List.map_map]
  refine (List.map_congr_left fun p hp => ?_).trans (List.map_id _)
  exact code_keyK W hp
theorem L0_back (W : Nat → Nat → Int) : ∀ z ∈ L0 W, codeOf z ∈ p12 ∧ z = keyK W (codeOf z).1 (codeOf z).2 := by
  intro z hz
  obtain ⟨p, hp, rfl⟩ := List.mem_map.mp hz
  rw [code_keyK W hp]
  exact ⟨hp, rfl⟩

/-- the pairs as they come -/
noncomputable def psW (W : Nat → Nat → Int) : List (Nat × Nat) := (popSeq (heapifyS (L0 W)).length (heapifyS (L0 W))).map codeOf

theorem ps_facts (W : Nat → Nat → Int) : (heapifyS (L0 W)).length = 12 ∧ HeapFrom 0 (heapifyS (L0 W)) ∧ (∀ z ∈ heapifyS (L0 W), Good z) ∧ (∀ p ∈ psW W, p ∈ p12) ∧ (∀ p ∈ p12, p ∈ psW W) ∧ ((psW W).Pairwise fun p q => keyK W p.1 p.2 < keyK W q.1 q.2) ∧ (psW W).length = 12 := by
  obtain ⟨h1, h2⟩ := heapify_ok (L0 W)
  have hlen : (heapifyS (L0 W)).length = 12 := by rw [h2.length_eq]; simp [L0, p12]
  obtain ⟨s1, s2⟩ := popSeq_ok (heapifyS (L0 W)).length (heapifyS (L0 W)) (Nat.le_refl _) h1
  have hperm := s1.trans h2
  have hcodes : (psW W).Perm p12 := by
    have := hperm.map codeOf
    rw [L0_codes] at this
    exact this
  have hnd : (popSeq (heapifyS (L0 W)).length (heapifyS (L0 W))).Nodup := by
    have h3 : (psW W).Nodup := hcodes.nodup_iff.mpr (by decide)
    exact (List.pairwise_map.mp h3).imp (fun h e => h (congrArg codeOf e))
  refine ⟨hlen, h1, fun z hz => ?_, fun p hp => hcodes.subset hp, fun p hp => hcodes.symm.subset hp, ?_, by rw [hcodes.length_eq]; rfl⟩
  · have hz := h2.subset hz
    obtain ⟨p, hp, rfl⟩ := List.mem_map.mp hz
    obtain ⟨hx, hy, _⟩ := p12_lt hp
    exact ⟨p, hp, by unfold keyK; lia⟩
  · unfold psW
    rw [List.pairwise_map]
    refine List.Pairwise.imp_of_mem (fun {a b} ha hb hab => ?_) (s2.and hnd)
    have ea := (L0_back W a (hperm.subset ha)).2
    have eb := (L0_back W b (hperm.subset hb)).2
    rw [← ea, ← eb]
    have h1 := hab.1
    have h2 : a ≠ b := hab.2
    lia

/-- the frame behind the tables -/
noncomputable def zE (r5 : R) (ex : List (Str × Var)) : R := ⟨r5.vars ++ ex, []⟩

theorem e_compare {n : Nat} {cx : CX} {ρ : R} {o : PySem.Expr} {m : Str} {apos pos : Pos} {args : List PySem.Expr} {l v : AV} {vs : List AV} (hlo : (lineOk apos pos && baseOk o && decide (args.length < 20)) = true) (hm : m = nm "compare") (h1 : (RR n).ev cx ρ o = some ⟨.inst l, false⟩) (h2 : evs (RR n) cx ρ args = some vs)
    (h3 : (RR n).call (nm "compare") (.frz (.inst l) :: vs.map .frz) = some (v, none)) : (RR (n + 1)).ev cx ρ (.Call (.Attribute o m apos) args [] pos) = some ⟨v, false⟩ := by
  subst hm
  show evMeth (RR n) cx ρ o (nm "compare") apos args pos = _
  simp only [Bool.and_eq_true, decide_eq_true_eq] at hlo
  exact ifsI ⟨hlo.1.1, hlo.1.2, hlo.2⟩ (bndI h1 (bndI h2 (someI (a := l) rfl (tif rfl (mpdI (bndI h3 rfl))))))

theorem cs_inj {a b : List Nat} : cs a = cs b ↔ a = b := by
  constructor
  · intro e
    have := congrArg dec e
    rwa [dec_cs, dec_cs] at this
  · rintro rfl; rfl

noncomputable def jgT : PySem.Expr := match (dF 16).body.drop 10 with | .For t _ _ _ _ :: _ => t | _ => .Constant .none 0 ⟨0, 0, 0, 0⟩
noncomputable def jgB : List Stmt := match (dF 16).body.drop 10 with | .For _ _ b _ _ :: _ => b | _ => []

/-- the frame of the judge's loop -/
noncomputable def qE (scr : AV) (V : List AV) (Tb Wd : List (Str × AV)) (a b c d : Var) (l : List Nat) (K : List AV) (ex : List (Str × Var)) : R :=
  yE scr V Tb Wd ([(nm "who", a), (nm "callers", b), (nm "heads", c), (nm "total", d), (nm "heap", .own (.list [])), (nm "order", .frz (.str (cs l))), (nm "keys", .frz (.list K)), (nm "judge", .frz (.inst (.list K))), (nm "row", .frz (rowV (relS l)))] ++ ex)

theorem judge_turn (n : Nat) (scr : AV) (V : List AV) (Tb Wd : List (Str × AV)) (a b c d : Var) (l l' : List Nat) (hl' : l' ∈ perms) (K : List AV) (hj : ∀ m, (RR (m + 12)).call (nm "compare") [.frz (.inst (.list K)), .frz (rowV (relS l)), .frz (rowV (relS l'))] = some (.int (if l' = l then 0 else -1), none)) (ex : List (Str × Var)) (hex : ex = [] ∨ ∃ s, ex = [(nm "other", .frz (.str s))]) :
    ∃ ρ1, assignA (dF 16).sc jgT (.str (cs l')) (qE scr V Tb Wd a b c d l K ex) = some ρ1 ∧ (RR (n + 27)).ex (dF 16).sc ρ1 jgB = some (.next, qE scr V Tb Wd a b c d l K [(nm "other", .frz (.str (cs l')))]) := by
  have hrow := row_fn (n + 3) l' hl'
  have hjj := hj (n + 12)
  have heq : cmpA .Eq (.str (cs l')) (.str (cs l)) = some (decide (l' = l)) := by
    rw [c_seq]
    by_cases h : l' = l
    · subst h; simp
    · have : ¬ cs l' = cs l := fun q => h (cs_inj.mp q)
      simp [h, this]
  have hq : ∀ x : Int, cmpA .NotEq (.int x) (.int x) = some false := fun x => by rw [c_ne]; simp
  have hx : (if l' = l then (0 : Int) else -1) = if decide (l' = l) = true then 0 else -1 := by simp
  rw [hx] at hjj
  unfold qE
  generalize decide (l' = l) = dd at *
  generalize rowV (relS l) = rw0 at *
  generalize rowV (relS l') = rw1 at *
  generalize cs l' = o' at *
  generalize cs l = o at *
  let q : R := yE scr V Tb Wd [(nm "who", a), (nm "callers", b), (nm "heads", c), (nm "total", d), (nm "heap", .own (.list [])), (nm "order", .frz (.str o)), (nm "keys", .frz (.list K)), (nm "judge", .frz (.inst (.list K))), (nm "row", .frz rw0), (nm "other", .frz (.str o'))]
  refine ⟨q, by rcases hex with rfl | ⟨s, rfl⟩ <;> kernel_rfl, (ex_S (n := n + 26)).trans ?_⟩
  refine x_cons (ρ1 := q) (x_if (n := n + 26) (ρ1 := q) (c := false) (by kernel_rfl) (t_cmp (n := n + 25) (A := ⟨.int (if dd = true then 0 else -1), false⟩) (B := ⟨.int (if dd = true then 0 else -1), false⟩) rfl ?_ ?_ (hq _)) ?_) x_nil
  · exact e_compare (n := n + 24) (l := .list K) (vs := [rw0, rw1]) (by kernel_rfl) rfl (by kernel_rfl) (evs_cons rfl (by kernel_rfl) (evs_cons rfl (e_call (n := n + 23) (vs := [.str o']) (by kernel_rfl) (by kernel_rfl) (by kernel_rfl) hrow) evs_nil)) hjj
  · refine e_if (n := n + 24) (t_cmp (n := n + 23) (A := ⟨.str o', false⟩) (B := ⟨.str o, false⟩) rfl (by kernel_rfl) (by kernel_rfl) heq) ?_
    cases dd with
    | true => rw [if_pos rfl, if_pos rfl]; kernel_rfl
    | false => rw [if_neg (by decide), if_neg (by decide)]; kernel_rfl
  · rw [if_neg (by decide)]
    exact (ex_S (n := n + 25)).trans x_nil

theorem judge_loop (n : Nat) (scr : AV) (V : List AV) (Tb Wd : List (Str × AV)) (a b c d : Var) (l : List Nat) (K : List AV) (hj : ∀ l' ∈ perms, ∀ m, (RR (m + 12)).call (nm "compare") [.frz (.inst (.list K)), .frz (rowV (relS l)), .frz (rowV (relS l'))] = some (.int (if l' = l then 0 else -1), none)) : ∀ (ls : List (List Nat)) (ex : List (Str × Var)), (∀ l' ∈ ls, l' ∈ perms) → (ex = [] ∨ ∃ s, ex = [(nm "other", .frz (.str s))]) →
    ∃ ex', forA (RR (n + 27)) (dF 16).sc jgT jgB (ls.map fun l => .str (cs l)) (qE scr V Tb Wd a b c d l K ex) = some (.next, qE scr V Tb Wd a b c d l K ex') ∧ (ex' = [] ∨ ∃ s, ex' = [(nm "other", .frz (.str s))])
  | [], ex, h, hex => ⟨ex, f_nil, hex⟩
  | l' :: ls, ex, h, hex => by
    have hm := h l' List.mem_cons_self
    obtain ⟨ρ1, a1, b1⟩ := judge_turn n scr V Tb Wd a b c d l l' hm K (hj l' hm) ex hex
    obtain ⟨ex', i1, i2⟩ := judge_loop n scr V Tb Wd a b c d l K hj ls _ (fun q hq => h q (List.mem_cons_of_mem _ hq)) (.inr ⟨_, rfl⟩)
    exact ⟨ex', by rw [List.map_cons]; exact f_next a1 b1 i1, i2⟩

/-- behind the tables -/
theorem law_tail (n : Nat) (V : List (List Nat × Int)) (hV : VotesOk V) (scr : AV) (a b c d : Var) (ha : ∃ w, a = .frz w) (hb : ∃ w, b = .frz w) (hc : ∃ w, c = .frz w) (hd : ∃ w, d = .frz w) :
    ∃ ρ', exsN (n + 40) (dF 16).sc (yE scr (V.map voteA) (tabD fun who => statS (cnt V who)) (wD (wgt V)) [(nm "who", a), (nm "callers", b), (nm "heads", c), (nm "total", d)]) ((dF 16).body.drop 5) = some (.ret (.bool true), ρ') := by
  obtain ⟨a, rfl⟩ := ha
  obtain ⟨b, rfl⟩ := hb
  obtain ⟨c, rfl⟩ := hc
  obtain ⟨d, rfl⟩ := hd
  obtain ⟨p1, p2, p3, p4, p5, p6, p7⟩ := ps_facts (wgt V)
  have hhe := heap_ev (n + 19) V hV scr (wD (wgt V)) [(nm "who", .frz a), (nm "callers", .frz b), (nm "heads", .frz c), (nm "total", .frz d)] (.inr ⟨_, _, _, _, rfl, _, rfl⟩)
  have hhf := heapify_fn (n + 22) (L0 (wgt V)) (by simp [L0, p12])
  obtain ⟨l, hl, hT, hlk⟩ := locked_fn (n + 12) (heapifyS (L0 (wgt V))) (by lia) (by lia) p2 p3 p5
  have hat := attained_ok (n + 9) (wgt V) (psW (wgt V)) p4 p5 p6 l hl hT
  have hrow := row_fn (n + 19) l hl
  have hj : ∀ l' ∈ perms, ∀ m, (RR (m + 12)).call (nm "compare") [.frz (.inst (.list ((psW (wgt V)).map keyA))), .frz (rowV (relS l)), .frz (rowV (relS l'))] = some (.int (if l' = l then 0 else -1), none) := fun l' hl' m => judge m (psW (wgt V)) (by lia) p4 p5 l l' hl hl' hT
  obtain ⟨ex', j1, j2⟩ := judge_loop (n + 13) scr (V.map voteA) (tabD fun who => statS (cnt V who)) (wD (wgt V)) (.frz a) (.frz b) (.frz c) (.frz d) l ((psW (wgt V)).map keyA) hj ordersL [] orders_perms (.inl rfl)
  have hlk : (RR (n + 12 + 28)).call (nm "_law_locked") [.own (.list ((heapifyS (L0 (wgt V))).map enc))] = some (.tup [.str (cs l), .list ((psW (wgt V)).map keyA)], some (.list [])) := hlk
  have hord : (ordersL.map fun l => AV.str (cs l)).length ≤ 4096 := by decide +kernel
  clear hj hT p1 p2 p3 p4 p5 p6 p7
  unfold qE at j1
  generalize (psW (wgt V)).map keyA = K at *
  generalize (heapifyS (L0 (wgt V))).map enc = H2 at *
  generalize (L0 (wgt V)).map enc = H1 at *
  generalize wD (wgt V) = Wd at *
  generalize (tabD fun who => statS (cnt V who)) = Tb at *
  generalize V.map voteA = VV at *
  generalize rowV (relS l) = rw0 at *
  generalize cs l = o at *
  let e4 : List (Str × Var) := [(nm "who", .frz a), (nm "callers", .frz b), (nm "heads", .frz c), (nm "total", .frz d)]
  let q : List (Str × Var) → R := fun ex => yE scr VV Tb Wd ([(nm "who", .frz a), (nm "callers", .frz b), (nm "heads", .frz c), (nm "total", .frz d)] ++ ex)
  have fin : ∃ ρ', exsN (n + 40) (dF 16).sc (q ([(nm "heap", .own (.list [])), (nm "order", .frz (.str o)), (nm "keys", .frz (.list K)), (nm "judge", .frz (.inst (.list K))), (nm "row", .frz rw0)] ++ ex')) ((dF 16).body.drop 11) = some (.ret (.bool true), ρ') := by
    rcases j2 with rfl | ⟨s, rfl⟩
    · exact ⟨_, x_out (by intro h; cases h) (x_ret (n := n + 40) (ρ1 := q ([(nm "heap", .own (.list [])), (nm "order", .frz (.str o)), (nm "keys", .frz (.list K)), (nm "judge", .frz (.inst (.list K))), (nm "row", .frz rw0)])) (by kernel_rfl) (e_call (n := n + 39) (vs := [.str o, .dict Wd]) (by kernel_rfl) (by kernel_rfl) (by kernel_rfl) hat))⟩
    · exact ⟨_, x_out (by intro h; cases h) (x_ret (n := n + 40) (ρ1 := q ([(nm "heap", .own (.list [])), (nm "order", .frz (.str o)), (nm "keys", .frz (.list K)), (nm "judge", .frz (.inst (.list K))), (nm "row", .frz rw0), (nm "other", .frz (.str s))])) (by kernel_rfl) (e_call (n := n + 39) (vs := [.str o, .dict Wd]) (by kernel_rfl) (by kernel_rfl) (by kernel_rfl) hat))⟩
  obtain ⟨ρ', fin⟩ := fin
  refine ⟨ρ', ?_⟩
  refine x_cons (ρ1 := q [(nm "heap", .own (.list H1))]) (x_fresh (n := n + 40) (ρ1 := q []) rfl (by kernel_rfl) hhe (by kernel_rfl)) ?_
  refine x_cons (ρ1 := q [(nm "heap", .own (.list H2))]) (x_io (n := n + 40) (c := .list H1) (vs := []) (by kernel_rfl) (by kernel_rfl) (by kernel_rfl) (by kernel_rfl) (by kernel_rfl) hhf (by kernel_rfl)) ?_
  refine x_cons (ρ1 := q [(nm "heap", .own (.list [])), (nm "order", .frz (.str o)), (nm "keys", .frz (.list K))]) (x_unio (n := n + 40) (ρ1 := q [(nm "heap", .own (.list []))]) (c := .list H2) (vs := []) (by kernel_rfl) (by kernel_rfl) (by kernel_rfl) (by kernel_rfl) (by kernel_rfl) hlk (by kernel_rfl) (by kernel_rfl)) ?_
  refine x_cons (ρ1 := q [(nm "heap", .own (.list [])), (nm "order", .frz (.str o)), (nm "keys", .frz (.list K)), (nm "judge", .frz (.inst (.list K)))]) (x_name (n := n + 40) (v := .inst (.list K)) (ρ1 := q [(nm "heap", .own (.list [])), (nm "order", .frz (.str o)), (nm "keys", .frz (.list K))]) rfl (by kernel_rfl) (by kernel_rfl) (by kernel_rfl)) ?_
  refine x_cons (ρ1 := q [(nm "heap", .own (.list [])), (nm "order", .frz (.str o)), (nm "keys", .frz (.list K)), (nm "judge", .frz (.inst (.list K))), (nm "row", .frz rw0)]) (x_name (n := n + 40) (v := rw0) (ρ1 := q [(nm "heap", .own (.list [])), (nm "order", .frz (.str o)), (nm "keys", .frz (.list K)), (nm "judge", .frz (.inst (.list K)))]) rfl (by kernel_rfl) (e_call (n := n + 39) (vs := [.str o]) (by kernel_rfl) (by kernel_rfl) (by kernel_rfl) hrow) (by kernel_rfl)) ?_
  exact x_cons (x_for (n := n + 40) (ρ1 := q [(nm "heap", .own (.list [])), (nm "order", .frz (.str o)), (nm "keys", .frz (.list K)), (nm "judge", .frz (.inst (.list K))), (nm "row", .frz rw0)]) (src := OO) (l := ordersL.map fun l => .str (cs l)) (by kernel_rfl) (by kernel_rfl) (by kernel_rfl) (by kernel_rfl) (by kernel_rfl) hord j1) fin
end Mine.P

end

/-! part Law4 -/
section
set_option maxRecDepth 100000
set_option autoImplicit false
set_option linter.unusedVariables false
namespace Mine.P
open PySem

theorem check_loop (n : Nat) (V : List (List Nat × Int)) (hV : VotesOk V) (scr : AV) : ∃ a b c d, forA (RR (n + 26)) (dF 16).sc lwT lwF abcd (yE scr (V.map voteA) (tabD fun who => statS (cnt V who)) (wD (wgt V)) []) = some (.next, yE scr (V.map voteA) (tabD fun who => statS (cnt V who)) (wD (wgt V)) [(nm "who", .frz a), (nm "callers", .frz b), (nm "heads", .frz c), (nm "total", .frz d)]) := by
  obtain ⟨ρ0, ex0, a0, t0, h0⟩ := check_turn n V hV 0 (by decide) scr [] (.inl rfl)
  obtain ⟨ρ1, ex1, a1, t1, h1⟩ := check_turn n V hV 1 (by decide) scr ex0 (.inr h0)
  obtain ⟨ρ2, ex2, a2, t2, h2⟩ := check_turn n V hV 2 (by decide) scr ex1 (.inr h1)
  obtain ⟨ρ3, ex3, a3, t3, h3⟩ := check_turn n V hV 3 (by decide) scr ex2 (.inr h2)
  have loop := f_next (sc := (dF 16).sc) (t := lwT) (body := lwF) a0 t0 (f_next a1 t1 (f_next a2 t2 (f_next a3 t3 f_nil)))
  obtain ⟨a, b, c, d, rfl, w, rfl⟩ := h3
  exact ⟨w, b, c, d, loop⟩

/-- the whole law, as the abstract interpreter runs it -/
theorem law_fn (l : List Int) (hl : l.length ≤ 63) : (RR 60).call (nm "law") [.frz (.list (l.map .int))] = some (.bool true, none) := by
  have hV := votesL_ok l
  have f1 := orders_fn 37
  have f2 := votes_fn 29 l hl
  have f3 := counted_fn 22 (votesL l) hV
  have f4 := weights_fn 33 (votesL l) hV
  obtain ⟨a, b, c, d, f5⟩ := check_loop 32 (votesL l) hV (.list (l.map .int))
  obtain ⟨ρ', f6⟩ := law_tail 18 (votesL l) hV (.list (l.map .int)) (.frz a) (.frz b) (.frz c) (.frz d) ⟨_, rfl⟩ ⟨_, rfl⟩ ⟨_, rfl⟩ ⟨_, rfl⟩
  generalize (tabD fun who => statS (cnt (votesL l) who)) = Tb at *
  generalize wD (wgt (votesL l)) = Wd at *
  generalize (votesL l).map voteA = VV at *
  generalize AV.list (l.map .int) = scr at *
  refine call_frz (n := 59) (d := dF 16) (vs := [scr]) (fl := .ret (.bool true)) (ρ' := ρ') (by kernel_rfl) (by kernel_rfl) ?_ rfl
  refine (ex_S (n := 58)).trans ?_
  let r0 : R := ⟨[(nm "script", .frz scr)], []⟩
  let r1 : R := ⟨[(nm "script", .frz scr), (nm "orders", .frz OO)], []⟩
  let r2 : R := ⟨[(nm "script", .frz scr), (nm "orders", .frz OO), (nm "votes", .frz (.list VV))], []⟩
  let r3 : R := ⟨[(nm "script", .frz scr), (nm "orders", .frz OO), (nm "votes", .frz (.list VV)), (nm "tables", .frz (.dict Tb))], []⟩
  refine x_cons (ρ1 := r1) (x_name (n := 58) (v := OO) (ρ1 := r0) rfl (by kernel_rfl) (e_call (n := 57) (vs := []) (by kernel_rfl) (by kernel_rfl) (by kernel_rfl) f1) (by kernel_rfl)) ?_
  refine x_cons (ρ1 := r2) (x_name (n := 58) (v := .list VV) (ρ1 := r1) rfl (by kernel_rfl) (e_call (n := 57) (vs := [scr, OO]) (by kernel_rfl) (by kernel_rfl) (by kernel_rfl) f2) (by kernel_rfl)) ?_
  refine x_cons (ρ1 := r3) (x_name (n := 58) (v := .dict Tb) (ρ1 := r2) rfl (by kernel_rfl) (e_call (n := 57) (vs := [.list VV]) (by kernel_rfl) (by kernel_rfl) (by kernel_rfl) f3) (by kernel_rfl)) ?_
  refine x_cons (ρ1 := yE scr VV Tb Wd []) (x_name (n := 58) (v := .dict Wd) (ρ1 := r3) rfl (by kernel_rfl) (e_call (n := 57) (vs := [.list VV]) (by kernel_rfl) (by kernel_rfl) (by kernel_rfl) f4) (by kernel_rfl)) ?_
  exact x_cons (x_for (n := 58) (ρ1 := yE scr VV Tb Wd []) (src := .str (cs [0, 1, 2, 3])) (l := abcd) (by kernel_rfl) (by kernel_rfl) (by kernel_rfl) (by kernel_rfl) (by kernel_rfl) (by decide) f5) f6
end Mine.P

end

theorem PySem.Challenge.cw_pg0157_01_holds : PySem.Challenge.rw_pg0157_01.Holds :=
  Mine.top fun l h => Mine.P.law_fn l (by omega)
