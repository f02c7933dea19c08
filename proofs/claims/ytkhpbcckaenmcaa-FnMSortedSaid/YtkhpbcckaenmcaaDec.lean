/-
  The bones of the proof: typed programs over a heap (M), what such a program brings about (wp), and the reading of a translated function as such a program (den). Conditions: none.
-/
import Derived.Test.YtkhpbcckaenmcaaChecked
import Derived.WalkKit
import Derived.OrdersHeld
namespace Go.Proofs.Ytkhpbcckaenmcaa
open Go

/-! ### Values with their kind in sight -/
abbrev H := Array Obj
abbrev PA := Nat × Nat
def PA.val (p : PA) : Addr := ⟨p.1, p.2, none⟩

inductive Cell where
  | int (k : IntKind) (n : Int)
  | bool (b : Bool)
  | tt
  | ff
  | addr (p : PA)
  | ptr (p : Option PA)
  | sl (p : Option PA) (len cap : Nat)
  | str (s : ByteArray)
  | raw (v : Value)

def Cell.val : Cell → Value
  | .int k n => .int k n
  | .bool b => .bool b
  | .tt => .bool true
  | .ff => .bool false
  | .addr p => .pointer (some p.val)
  | .ptr p => .pointer (p.map PA.val)
  | .sl p l c => .slice (p.map PA.val) l c
  | .str s => .string s
  | .raw v => match v with
    | .agg _ => .nilIface
    | .tuple _ => .nilIface
    | v => v

theorem Cell.one (c : Cell) : c.val.oneCell' = true := by
  cases c <;> try rfl
  rename_i v
  cases v <;> rfl

inductive AV where
  | c (x : Cell)
  | agg (cs : List Cell)
  | tup (vs : List (Bool × List Cell))

def compVal : Bool × List Cell → Value
  | (true, cs) => .agg (cs.map Cell.val).toArray
  | (false, c :: _) => c.val
  | (false, []) => undef

def AV.val : AV → Value
  | .c x => x.val
  | .agg cs => .agg (cs.map Cell.val).toArray
  | .tup vs => .tuple (vs.map compVal).toArray

/-! ### Kinds -/
inductive Sh1 where
  | int (k : IntKind) | bool | ptr | addr | sl | str | raw

@[reducible] def Sh1.T : Sh1 → Type
  | .int _ => Int | .bool => Bool | .ptr => Option PA | .addr => PA | .sl => Option PA × Nat × Nat | .str => ByteArray | .raw => Value

def Sh1.mk : (s : Sh1) → s.T → Cell
  | .int k, (n : Int) => .int k n
  | .bool, (b : Bool) => .bool b
  | .ptr, (p : Option PA) => .ptr p
  | .addr, (p : PA) => .addr p
  | .sl, (x : Option PA × Nat × Nat) => .sl x.1 x.2.1 x.2.2
  | .str, (s : ByteArray) => .str s
  | .raw, (v : Value) => .raw v

inductive Sh where
  | c (s : Sh1)
  | agg (ss : List Sh1)

@[reducible] def SV1 : List Sh1 → Type
  | [] => Unit
  | s :: ss => s.T × SV1 ss
def SV1.list : (ss : List Sh1) → SV1 ss → List Cell
  | [], _ => []
  | s :: ss, x => s.mk x.1 :: SV1.list ss x.2
@[reducible] def Sh.T : Sh → Type
  | .c s => s.T
  | .agg ss => SV1 ss
def Sh.mk : (s : Sh) → s.T → AV
  | .c s, x => .c (s.mk x)
  | .agg ss, x => .agg (SV1.list ss x)
def Sh.comp : (s : Sh) → s.T → Bool × List Cell
  | .c s, x => (false, [s.mk x])
  | .agg ss, x => (true, SV1.list ss x)
@[reducible] def SV : List Sh → Type
  | [] => Unit
  | s :: ss => s.T × SV ss
def SV.list : (ss : List Sh) → SV ss → List AV
  | [], _ => []
  | s :: ss, x => s.mk x.1 :: SV.list ss x.2
def SV.comps : (ss : List Sh) → SV ss → List (Bool × List Cell)
  | [], _ => []
  | s :: ss, x => s.comp x.1 :: SV.comps ss x.2

/-! ### Programs -/
inductive Ex where
  | normal | exit (id : Nat) | goto (l : Nat) | ret

abbrev SlT := Option PA × Nat × Nat

inductive M : Type where
  | fail
  | done (e : Ex) (vs : List AV)
  | guard (p : Prop) (k : M)
  | nonnil (p : Option PA) (k : PA → M)
  | load (a : PA) (s : Sh1) (k : s.T → M)
  | held (a : PA) (c : Cell) (k : M)
  | store (a : PA) (c : Cell) (k : M)
  | alloc (t : TypeId) (cs : List Cell) (k : Nat → M)
  | ite (b : Bool) (x y : M)
  | both (x y : M)
  | call (f : FuncId) (args : List AV) (tup : Bool) (ss : List Sh) (k : SV ss → M)
  | callv (f : Value) (args : List AV) (tup : Bool) (ss : List Sh) (k : SV ss → M)
  | append (e : TypeId) (sz byt : Nat) (z : List Cell) (d s : SlT) (k : SlT → M)
  | copy (sz : Nat) (d s : SlT) (k : Nat → M)
  | make (e : TypeId) (sz byt : Nat) (z : List Cell) (len cap : Int) (k : SlT → M)
  | bind (l : Option Nat) (m : M) (ss : List Sh) (k : SV ss → M)
  | loop (ss : List Sh) (init : List AV) (body : SV ss → M)

/-! ### The heap -/
def rd (h : H) (a : PA) : Option Value :=
  match h[a.1]? with
  | some (.cells c _ _) => c[a.2]?
  | _ => none
def fz (h : H) (a : PA) : Bool :=
  match h[a.1]? with
  | some (.cells _ _ (lo, hi)) => lo ≤ a.2 && a.2 < hi
  | _ => false
def wr (h : H) (a : PA) (v : Value) : H :=
  h.modify a.1 fun
    | .cells c elem frozen => .cells (c.setIfInBounds a.2 v) elem frozen
    | o => o
def wok (h : H) (a : PA) : Prop := (rd h a).isSome = true ∧ fz h a = false
def rds (h : H) (a : PA) (vs : List Value) : Prop := ∀ j v, vs[j]? = some v → rd h (a.1, a.2 + j) = some v
def wrs (h : H) (a : PA) : List Value → H
  | [] => h
  | v :: r => wrs (wr h a v) (a.1, a.2 + 1) r
def oks (h : H) (a : PA) (n : Nat) : Prop := ∀ j, j < n → wok h (a.1, a.2 + j)
def newCells (h : H) (t : TypeId) (vs : List Value) : H := h.push (.cells vs.toArray t (0, 0))
def zeros (z : List Cell) (n : Nat) : List Value := (Builtin.zeroCells (z.map Cell.val).toArray n).toList

/-- What of a world stays as it is but the heap and the count of draws. -/
structure Ext (w w' : World) : Prop where
  tape : w'.tape = w.tape
  os : w'.os = w.os
  output : w'.output = w.output

theorem Ext.refl (w : World) : Ext w w := ⟨rfl, rfl, rfl⟩
theorem Ext.trans {a b c : World} (h : Ext a b) (g : Ext b c) : Ext a c := ⟨g.tape.trans h.tape, g.os.trans h.os, g.output.trans h.output⟩

/-- A call, said of the heap alone. -/
def HC (P : Program) (f : FuncId) (args : Array Value) (h : H) (R : Value → H → Prop) : Prop :=
  ∀ w : World, w.heap = h → Calls P f args w fun e w' => ∃ v, e = .returned v ∧ Ext w w' ∧ R v w'.heap

theorem HC.mono {P : Program} {f : FuncId} {args : Array Value} {h : H} {R R' : Value → H → Prop} (hc : HC P f args h R) (hr : ∀ v h', R v h' → R' v h') :
    HC P f args h R' := fun w hw => (hc w hw).mono fun _ _ ⟨v, e, x, r⟩ => ⟨v, e, x, hr _ _ r⟩

def retVal (tup : Bool) (ss : List Sh) (x : SV ss) : Value :=
  if tup then (AV.tup (SV.comps ss x)).val else ((SV.list ss x).head?.map AV.val).getD undef

def callOf (P : Program) (v : Value) (args : Array Value) (h : H) (R : Value → H → Prop) : Prop :=
  match v with
  | .func (.func f) first cap => (P.funcs[f]?).map (fun fn => fn.body.isSome && fn.name != "runtime.NumGoroutine") = some true ∧ HC P f (first ++ args ++ cap) h R
  | _ => False

def growOk (need byt : Nat) : Prop := need * byt ≤ 140737488355328 ∧ need ≤ 9223372036854775807

def wp (P : Program) : M → (Ex → List AV → H → Prop) → H → Prop
  | .fail, _, _ => False
  | .done e vs, Q, h => Q e vs h
  | .guard p k, Q, h => p ∧ wp P k Q h
  | .nonnil p k, Q, h => ∃ a, p = some a ∧ wp P (k a) Q h
  | .load a s k, Q, h => ∃ x, rd h a = some (s.mk x).val ∧ wp P (k x) Q h
  | .held a c k, Q, h => rd h a = some c.val ∧ wp P k Q h
  | .store a c k, Q, h => wok h a ∧ wp P k Q (wr h a c.val)
  | .alloc t cs k, Q, h => wp P (k h.size) Q (newCells h t (cs.map Cell.val))
  | .ite b x y, Q, h => (b = true → wp P x Q h) ∧ (b = false → wp P y Q h)
  | .both x y, Q, h => wp P x Q h ∧ wp P y Q h
  | .call f args tup ss k, Q, h => HC P f (args.map AV.val).toArray h fun v h' => ∃ x : SV ss, v = retVal tup ss x ∧ wp P (k x) Q h'
  | .callv f args tup ss k, Q, h => callOf P f (args.map AV.val).toArray h fun v h' => ∃ x : SV ss, v = retVal tup ss x ∧ wp P (k x) Q h'
  | .append e sz byt z d s k, Q, h => ∃ news : List Value, news.length = s.2.1 * sz ∧ (s.2.1 * sz = 0 ∨ ∃ q, s.1 = some q ∧ rds h q news) ∧
      (∀ v ∈ news, v.oneCell' = true) ∧
      (if d.2.1 + s.2.1 ≤ d.2.2 then
        (s.2.1 * sz = 0 ∧ wp P (k (d.1, d.2.1 + s.2.1, d.2.2)) Q h) ∨
        ∃ p, d.1 = some p ∧ oks h (p.1, p.2 + d.2.1 * sz) (s.2.1 * sz) ∧ wp P (k (d.1, d.2.1 + s.2.1, d.2.2)) Q (wrs h (p.1, p.2 + d.2.1 * sz) news)
       else ∃ olds : List Value, olds.length = d.2.1 * sz ∧ (d.2.1 * sz = 0 ∨ ∃ p, d.1 = some p ∧ rds h p olds) ∧ growOk (d.2.1 + s.2.1) byt ∧
        ∀ nc, d.2.1 + s.2.1 ≤ nc → nc < 9223372036854775808 → wp P (k (some (h.size, 0), d.2.1 + s.2.1, nc)) Q (newCells h e (olds ++ news ++ zeros z (nc - (d.2.1 + s.2.1)))))
  | .copy sz d s k, Q, h => ∃ vs : List Value, vs.length = Nat.min s.2.1 d.2.1 * sz ∧
      (vs = [] ∨ ∃ p q, d.1 = some p ∧ s.1 = some q ∧ rds h q vs ∧ oks h p vs.length ∧ ∀ v ∈ vs, v.oneCell' = true) ∧
      wp P (k (Nat.min s.2.1 d.2.1)) Q (match d.1 with | some p => wrs h p vs | none => h)
  | .make e sz byt z len cap k, Q, h => 0 ≤ len ∧ len ≤ cap ∧ (byt : Int) * cap ≤ 281474976710656 ∧ cap ≤ 9223372036854775807 ∧
      wp P (k (some (h.size, 0), len.toNat, cap.toNat)) Q (newCells h e (madeCells (z.map Cell.val).toArray (cap.toNat * sz)).toList)
  | .bind l m ss k, Q, h => wp P m (fun e vs h' =>
      match e, l with
      | .normal, _ => ∃ x : SV ss, (SV.list ss x).map AV.val = vs.map AV.val ∧ wp P (k x) Q h'
      | .exit i, some j => if i = j then ∃ x : SV ss, (SV.list ss x).map AV.val = vs.map AV.val ∧ wp P (k x) Q h' else Q e vs h'
      | _, _ => Q e vs h') h
  | .loop ss init body, Q, h => ∃ (I : SV ss → H → Prop) (μ : SV ss → H → Nat),
      (∃ x, (SV.list ss x).map AV.val = init.map AV.val ∧ I x h) ∧
      ∀ x h1, I x h1 → wp P (body x) (fun e vs h' =>
        match e with
        | .normal => ∃ y, (SV.list ss y).map AV.val = vs.map AV.val ∧ I y h' ∧ μ y h' < μ x h1
        | _ => Q e vs h') h1

end Go.Proofs.Ytkhpbcckaenmcaa
