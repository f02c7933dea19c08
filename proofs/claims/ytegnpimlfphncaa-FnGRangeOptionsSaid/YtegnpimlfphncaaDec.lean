/-
  The engine: typed programs over a heap, the reading of translated functions as such, and that it is right. Conditions: none.
-/
import Derived.Test.YtegnpimlfphncaaChecked
import Derived.WalkKit
import Derived.OrdersHeld
import Derived.Deep.LoopGhost
import Derived.ScopeJumps
namespace Go.Proofs.Ytegnpimlfphncaa
open Go
abbrev H := Array Obj
abbrev PA := Nat × Nat
def PA.val (p : PA) : Addr := ⟨p.1, p.2, none⟩
inductive Cell where
  | int (k : IntKind) (n : Int)
  | bool (b : Bool)
  | tt
  | ff
  | addr (p : PA)
  | ptr (p : Option PA)
  | sl (p : Option PA) (len cap : Nat)
  | str (s : ByteArray)
  | raw (v : Value)
def Cell.val : Cell → Value
  | .int k n => .int k n
  | .bool b => .bool b
  | .tt => .bool true
  | .ff => .bool false
  | .addr p => .pointer (some p.val)
  | .ptr p => .pointer (p.map PA.val)
  | .sl p l c => .slice (p.map PA.val) l c
  | .str s => .string s
  | .raw v => match v with
    | .agg _ => .nilIface
    | .tuple _ => .nilIface
    | v => v
theorem Cell.one (c : Cell) : c.val.oneCell' = true := by
  cases c <;> try rfl
  rename_i v
  cases v <;> rfl
inductive AV where
  | c (x : Cell)
  | agg (cs : List Cell)
  | tup (vs : List (Bool × List Cell))
def compVal : Bool × List Cell → Value
  | (true, cs) => .agg (cs.map Cell.val).toArray
  | (false, c :: _) => c.val
  | (false, []) => undef
def AV.val : AV → Value
  | .c x => x.val
  | .agg cs => .agg (cs.map Cell.val).toArray
  | .tup vs => .tuple (vs.map compVal).toArray
inductive Sh1 where
  | int (k : IntKind) | bool | ptr | addr | sl | str | raw
@[reducible] def Sh1.T : Sh1 → Type
  | .int _ => Int | .bool => Bool | .ptr => Option PA | .addr => PA | .sl => Option PA × Nat × Nat | .str => ByteArray | .raw => Value
def Sh1.mk : (s : Sh1) → s.T → Cell
  | .int k, (n : Int) => .int k n
  | .bool, (b : Bool) => .bool b
  | .ptr, (p : Option PA) => .ptr p
  | .addr, (p : PA) => .addr p
  | .sl, (x : Option PA × Nat × Nat) => .sl x.1 x.2.1 x.2.2
  | .str, (s : ByteArray) => .str s
  | .raw, (v : Value) => .raw v
inductive Sh where
  | c (s : Sh1)
  | agg (ss : List Sh1)
@[reducible] def SV1 : List Sh1 → Type
  | [] => Unit
  | s :: ss => s.T × SV1 ss
def SV1.list : (ss : List Sh1) → SV1 ss → List Cell
  | [], _ => []
  | s :: ss, x => s.mk x.1 :: SV1.list ss x.2
@[reducible] def Sh.T : Sh → Type
  | .c s => s.T
  | .agg ss => SV1 ss
def Sh.mk : (s : Sh) → s.T → AV
  | .c s, x => .c (s.mk x)
  | .agg ss, x => .agg (SV1.list ss x)
def Sh.comp : (s : Sh) → s.T → Bool × List Cell
  | .c s, x => (false, [s.mk x])
  | .agg ss, x => (true, SV1.list ss x)
@[reducible] def SV : List Sh → Type
  | [] => Unit
  | s :: ss => s.T × SV ss
def SV.list : (ss : List Sh) → SV ss → List AV
  | [], _ => []
  | s :: ss, x => s.mk x.1 :: SV.list ss x.2
def SV.comps : (ss : List Sh) → SV ss → List (Bool × List Cell)
  | [], _ => []
  | s :: ss, x => s.comp x.1 :: SV.comps ss x.2
inductive Ex where
  | normal | exit (id : Nat) | goto (l : Nat) | ret
abbrev SlT := Option PA × Nat × Nat
inductive M : Type where
  | fail
  | done (e : Ex) (vs : List AV)
  | guard (p : Prop) (k : M)
  | nonnil (p : Option PA) (k : PA → M)
  | load (a : PA) (s : Sh1) (k : s.T → M)
  | held (a : PA) (c : Cell) (k : M)
  | there (a : PA) (k : M)
  | store (a : PA) (c : Cell) (k : M)
  | alloc (t : TypeId) (cs : List Cell) (k : Nat → M)
  | ite (b : Bool) (x y : M)
  | both (x y : M)
  | call (f : FuncId) (args : List AV) (tup : Bool) (ss : List Sh) (k : SV ss → M)
  | callv (f : Value) (args : List AV) (tup : Bool) (ss : List Sh) (k : SV ss → M)
  | append (e : TypeId) (sz byt : Nat) (z : List Cell) (d s : SlT) (k : SlT → M)
  | appendZ (e : TypeId) (sz byt : Nat) (z : List Cell) (d : SlT) (n : Int) (k : SlT → M)
  | copy (sz : Nat) (d s : SlT) (k : Nat → M)
  | make (e : TypeId) (sz byt : Nat) (z : List Cell) (len cap : Int) (k : SlT → M)
  | bind (l : Option Nat) (m : M) (ss : List Sh) (k : SV ss → M)
  | loop (ss : List Sh) (init : List AV) (body : SV ss → M)
def rd (h : H) (a : PA) : Option Value :=
  match h[a.1]? with
  | some (.cells c _ _) => c[a.2]?
  | _ => none
def goodT (P : Program) (t : TypeId) : Bool := (List.range (P.cellsOf t)).all fun c => (byteOfCell P P.depth t c).isSome
noncomputable def gd (t : TypeId) : Bool := goodT Try.prog t
def okp (h : H) (a : PA) : Prop := ∃ c e f, h[a.1]? = some (.cells c e f) ∧ gd e = true
noncomputable def fz (h : H) (a : PA) : Bool :=
  match h[a.1]? with
  | some (.cells _ e (lo, hi)) => !gd e || (lo ≤ a.2 && a.2 < hi)
  | _ => false
def wr (h : H) (a : PA) (v : Value) : H :=
  h.modify a.1 fun
    | .cells c elem frozen => .cells (c.setIfInBounds a.2 v) elem frozen
    | o => o
def wok (h : H) (a : PA) : Prop := (rd h a).isSome = true ∧ fz h a = false
def rds (h : H) (a : PA) (vs : List Value) : Prop := ∀ j v, vs[j]? = some v → rd h (a.1, a.2 + j) = some v
def hds (h : H) (a : PA) : List Cell → Prop
  | [] => okp h a
  | c :: cs => rds h a ((c :: cs).map Cell.val)
def wrs (h : H) (a : PA) : List Value → H
  | [] => h
  | v :: r => wrs (wr h a v) (a.1, a.2 + 1) r
def oks (h : H) (a : PA) (n : Nat) : Prop := ∀ j, j < n → wok h (a.1, a.2 + j)
def newCells (h : H) (t : TypeId) (vs : List Value) : H := h.push (.cells vs.toArray t (0, 0))
def zeros (z : List Cell) (n : Nat) : List Value := (Builtin.zeroCells (z.map Cell.val).toArray n).toList
structure Ext (w w' : World) : Prop where
  tape : w'.tape = w.tape
  os : w'.os = w.os
  output : w'.output = w.output
theorem Ext.refl (w : World) : Ext w w := ⟨rfl, rfl, rfl⟩
theorem Ext.trans {a b c : World} (h : Ext a b) (g : Ext b c) : Ext a c := ⟨g.tape.trans h.tape, g.os.trans h.os, g.output.trans h.output⟩
def HC (P : Program) (f : FuncId) (args : Array Value) (h : H) (R : Value → H → Prop) : Prop :=
  ∀ w : World, w.heap = h → Calls P f args w fun e w' => ∃ v, e = .returned v ∧ Ext w w' ∧ R v w'.heap
theorem HC.mono {P : Program} {f : FuncId} {args : Array Value} {h : H} {R R' : Value → H → Prop} (hc : HC P f args h R) (hr : ∀ v h', R v h' → R' v h') :
    HC P f args h R' := fun w hw => (hc w hw).mono fun _ _ ⟨v, e, x, r⟩ => ⟨v, e, x, hr _ _ r⟩
def retVal (tup : Bool) (ss : List Sh) (x : SV ss) : Value :=
  if tup then (AV.tup (SV.comps ss x)).val else ((SV.list ss x).head?.map AV.val).getD undef
def callOf (P : Program) (v : Value) (args : Array Value) (h : H) (R : Value → H → Prop) : Prop :=
  match v with
  | .func (.func f) first cap => (P.funcs[f]?).map (fun fn => fn.body.isSome && fn.name != "runtime.NumGoroutine") = some true ∧ HC P f (first ++ args ++ cap) h R
  | _ => False
def growOk (need byt : Nat) : Prop := need * byt ≤ 140737488355328 ∧ need ≤ 9223372036854775807
def wp (P : Program) : M → (Ex → List AV → H → Prop) → H → Prop
  | .fail, _, _ => False
  | .done e vs, Q, h => Q e vs h
  | .guard p k, Q, h => p ∧ wp P k Q h
  | .nonnil p k, Q, h => ∃ a, p = some a ∧ wp P (k a) Q h
  | .load a s k, Q, h => ∃ x, rd h a = some (s.mk x).val ∧ wp P (k x) Q h
  | .held a c k, Q, h => rd h a = some c.val ∧ wp P k Q h
  | .there a k, Q, h => (∀ t, gd t = true → goodT P t = true) ∧ okp h a ∧ wp P k Q h
  | .store a c k, Q, h => wok h a ∧ wp P k Q (wr h a c.val)
  | .alloc t cs k, Q, h => gd t = true → wp P (k h.size) Q (newCells h t (cs.map Cell.val))
  | .ite b x y, Q, h => (b = true → wp P x Q h) ∧ (b = false → wp P y Q h)
  | .both x y, Q, h => wp P x Q h ∧ wp P y Q h
  | .call f args tup ss k, Q, h => HC P f (args.map AV.val).toArray h fun v h' => ∃ x : SV ss, v = retVal tup ss x ∧ wp P (k x) Q h'
  | .callv f args tup ss k, Q, h => callOf P f (args.map AV.val).toArray h fun v h' => ∃ x : SV ss, v = retVal tup ss x ∧ wp P (k x) Q h'
  | .append e sz byt z d s k, Q, h => ∃ news : List Value, news.length = s.2.1 * sz ∧ (s.2.1 * sz = 0 ∨ ∃ q, s.1 = some q ∧ rds h q news) ∧
      (∀ v ∈ news, v.oneCell' = true) ∧
      (if d.2.1 + s.2.1 ≤ d.2.2 then
        (s.2.1 * sz = 0 ∧ wp P (k (d.1, d.2.1 + s.2.1, d.2.2)) Q h) ∨
        ∃ p, d.1 = some p ∧ oks h (p.1, p.2 + d.2.1 * sz) (s.2.1 * sz) ∧ wp P (k (d.1, d.2.1 + s.2.1, d.2.2)) Q (wrs h (p.1, p.2 + d.2.1 * sz) news)
       else ∃ olds : List Value, olds.length = d.2.1 * sz ∧ (d.2.1 * sz = 0 ∨ ∃ p, d.1 = some p ∧ rds h p olds) ∧ growOk (d.2.1 + s.2.1) byt ∧
        ∀ nc, d.2.1 + s.2.1 ≤ nc → nc < 9223372036854775808 → gd e = true → wp P (k (some (h.size, 0), d.2.1 + s.2.1, nc)) Q (newCells h e (olds ++ news ++ zeros z (nc - (d.2.1 + s.2.1)))))
  | .appendZ e sz byt z d n k, Q, h => 0 < n ∧ n ≤ 9223372036854775807 ∧ n * (byt : Int) ≤ 281474976710656 ∧ n.toNat * sz ≠ 0 ∧ d.2.2 < d.2.1 + n.toNat ∧
      ∃ olds : List Value, olds.length = d.2.1 * sz ∧ (d.2.1 * sz = 0 ∨ ∃ p, d.1 = some p ∧ rds h p olds) ∧ growOk (d.2.1 + n.toNat) byt ∧
        ∀ nc, d.2.1 + n.toNat ≤ nc → nc < 9223372036854775808 → gd e = true → wp P (k (some (h.size, 0), d.2.1 + n.toNat, nc)) Q (newCells h e (olds ++ zeros z n.toNat ++ zeros z (nc - (d.2.1 + n.toNat))))
  | .copy sz d s k, Q, h => ∃ vs : List Value, vs.length = Nat.min s.2.1 d.2.1 * sz ∧
      (vs = [] ∨ ∃ p q, d.1 = some p ∧ s.1 = some q ∧ rds h q vs ∧ oks h p vs.length ∧ ∀ v ∈ vs, v.oneCell' = true) ∧
      wp P (k (Nat.min s.2.1 d.2.1)) Q (match d.1 with | some p => wrs h p vs | none => h)
  | .make e sz byt z len cap k, Q, h => 0 ≤ len ∧ len ≤ cap ∧ (byt : Int) * cap ≤ 281474976710656 ∧ cap ≤ 9223372036854775807 ∧
      (gd e = true → wp P (k (some (h.size, 0), len.toNat, cap.toNat)) Q (newCells h e (madeCells (z.map Cell.val).toArray (cap.toNat * sz)).toList))
  | .bind l m ss k, Q, h => wp P m (fun e vs h' =>
      match e, l with
      | .normal, _ => ∃ x : SV ss, (SV.list ss x).map AV.val = vs.map AV.val ∧ wp P (k x) Q h'
      | .exit i, some j => if i = j then ∃ x : SV ss, (SV.list ss x).map AV.val = vs.map AV.val ∧ wp P (k x) Q h' else Q e vs h'
      | _, _ => Q e vs h') h
  | .loop ss init body, Q, h => ∃ (I : SV ss → H → Prop) (μ : SV ss → H → Nat),
      (∃ x, (SV.list ss x).map AV.val = init.map AV.val ∧ I x h) ∧
      ∀ x h1, I x h1 → wp P (body x) (fun e vs h' =>
        match e with
        | .normal => ∃ y, (SV.list ss y).map AV.val = vs.map AV.val ∧ I y h' ∧ μ y h' < μ x h1
        | _ => Q e vs h') h1
theorem callOf_mono {P : Program} {f : Value} {args : Array Value} {h : H} {R R' : Value → H → Prop} (hc : callOf P f args h R) (hr : ∀ v h', R v h' → R' v h') : callOf P f args h R' := by
  unfold callOf at hc ⊢
  split at hc
  · exact ⟨hc.1, hc.2.mono hr⟩
  · exact hc.elim
theorem wp_mono {P : Program} : ∀ {m : M} {Q Q' : Ex → List AV → H → Prop} {h : H}, wp P m Q h → (∀ e vs h', Q e vs h' → Q' e vs h') → wp P m Q' h
  | .fail, _, _, _, hw, _ => hw
  | .done e vs, _, _, _, hw, hq => hq _ _ _ hw
  | .guard p k, _, _, _, hw, hq => ⟨hw.1, wp_mono hw.2 hq⟩
  | .nonnil p k, _, _, _, hw, hq => let ⟨a, h1, h2⟩ := hw; ⟨a, h1, wp_mono h2 hq⟩
  | .load a s k, _, _, _, hw, hq => let ⟨x, h1, h2⟩ := hw; ⟨x, h1, wp_mono h2 hq⟩
  | .held a c k, _, _, _, hw, hq => ⟨hw.1, wp_mono hw.2 hq⟩
  | .there a k, _, _, _, hw, hq => ⟨hw.1, hw.2.1, wp_mono hw.2.2 hq⟩
  | .store a c k, _, _, _, hw, hq => ⟨hw.1, wp_mono hw.2 hq⟩
  | .alloc t cs k, _, _, _, hw, hq => fun hg => wp_mono (m := k _) (hw hg) hq
  | .ite b x y, _, _, _, hw, hq => ⟨fun hb => wp_mono (hw.1 hb) hq, fun hb => wp_mono (hw.2 hb) hq⟩
  | .both x y, _, _, _, hw, hq => ⟨wp_mono hw.1 hq, wp_mono hw.2 hq⟩
  | .call f args tup ss k, _, _, _, hw, hq => HC.mono hw fun _ _ ⟨x, h1, h2⟩ => ⟨x, h1, wp_mono h2 hq⟩
  | .callv f args tup ss k, _, _, _, hw, hq => callOf_mono hw fun _ _ ⟨x, h1, h2⟩ => ⟨x, h1, wp_mono h2 hq⟩
  | .append e sz byt z d s k, Q, Q', h, hw, hq => by
    obtain ⟨news, h1, h2, h3, h4⟩ := hw
    refine ⟨news, h1, h2, h3, ?_⟩
    split at h4
    · rename_i hc
      rw [if_pos hc]
      rcases h4 with ⟨h5, h6⟩ | ⟨p, h5, h6, h7⟩
      · exact .inl ⟨h5, wp_mono h6 hq⟩
      · exact .inr ⟨p, h5, h6, wp_mono h7 hq⟩
    · rename_i hc
      rw [if_neg hc]
      obtain ⟨olds, h5, h6, h7, h8⟩ := h4
      exact ⟨olds, h5, h6, h7, fun nc g1 g2 g3 => wp_mono (h8 nc g1 g2 g3) hq⟩
  | .appendZ e sz byt z d n k, Q, Q', h, hw, hq => by
    obtain ⟨h1, h2, h3, h4, h5, olds, h6, h7, h8, h9⟩ := hw
    exact ⟨h1, h2, h3, h4, h5, olds, h6, h7, h8, fun nc g1 g2 g3 => wp_mono (h9 nc g1 g2 g3) hq⟩
  | .copy sz d s k, Q, Q', h, hw, hq => by
    obtain ⟨vs, h1, h2, h3⟩ := hw
    exact ⟨vs, h1, h2, wp_mono h3 hq⟩
  | .make e sz byt z len cap k, Q, Q', h, hw, hq => by
    obtain ⟨h1, h2, h3, h4, h5⟩ := hw
    exact ⟨h1, h2, h3, h4, fun hg => wp_mono (h5 hg) hq⟩
  | .bind l m ss k, Q, Q', h, hw, hq => by
    simp only [wp] at hw ⊢
    refine wp_mono hw fun e vs h' hh => ?_
    cases e with
    | normal => obtain ⟨x, h1, h2⟩ := hh; exact ⟨x, h1, wp_mono h2 hq⟩
    | exit i =>
      cases l with
      | none => exact hq _ _ _ hh
      | some j =>
        dsimp only at hh ⊢
        split at hh
        · rename_i hij
          rw [if_pos hij]
          obtain ⟨x, h1, h2⟩ := hh
          exact ⟨x, h1, wp_mono h2 hq⟩
        · rename_i hij
          rw [if_neg hij]
          exact hq _ _ _ hh
    | goto i => exact hq _ _ _ hh
    | ret => exact hq _ _ _ hh
  | .loop ss init body, Q, Q', h, hw, hq => by
    obtain ⟨I, μ, h1, h2⟩ := hw
    refine ⟨I, μ, h1, fun x h1 hI => wp_mono (h2 x h1 hI) fun e vs h' hh => ?_⟩
    cases e with
    | normal => exact hh
    | exit i => exact hq _ _ _ hh
    | goto i => exact hq _ _ _ hh
    | ret => exact hq _ _ _ hh
end Go.Proofs.Ytegnpimlfphncaa
namespace Go.Proofs.Ytegnpimlfphncaa
open Go
abbrev Regs := Nat → Option AV
def upd (r : Regs) (d : Nat) (v : Option AV) : Regs := fun t => match Nat.beq t d with | true => v | false => r t
def ofV1 : Value → Option Cell
  | .int k n => some (.int k n)
  | .bool true => some .tt
  | .bool false => some .ff
  | .pointer none => some (.ptr none)
  | .slice none l c => some (.sl none l c)
  | .string s => some (.str s)
  | .nilFunc => some (.raw .nilFunc)
  | .nilIface => some (.raw .nilIface)
  | .func f a b => some (.raw (.func f a b))
  | _ => none
def ofVs : List Value → Option (List Cell)
  | [] => some []
  | v :: vs => match ofV1 v, ofVs vs with
    | some c, some cs => some (c :: cs)
    | _, _ => none
def ofV : Value → Option AV
  | .agg cs => (ofVs cs.toList).map .agg
  | v => (ofV1 v).map .c
def evo (r : Regs) : Operand → Option AV
  | .tmp t => r t
  | .const v => ofV v
  | .global g => some (.c (.addr (g, 0)))
  | .func f => some (.c (.raw (.func (.func f) #[] #[])))
def ev (r : Regs) (x : Operand) (k : AV → M) : M :=
  match evo r x with
  | some v => k v
  | none => .fail
def evs (r : Regs) : List Operand → (List AV → M) → M
  | [], k => k []
  | x :: xs, k => ev r x fun v => evs r xs fun vs => k (v :: vs)
def InK (k : IntKind) (n : Int) : Prop := k.wrap n = n
def sh1Of : Value → Option Sh1
  | .int k _ => some (.int k)
  | .bool _ => some .bool
  | .pointer _ => some .ptr
  | .slice _ _ _ => some .sl
  | .string _ => some .str
  | .nilFunc => some .raw
  | .nilIface => some .raw
  | _ => none
def sh1s : List Value → Option (List Sh1)
  | [] => some []
  | v :: vs => match sh1Of v, sh1s vs with
    | some c, some cs => some (c :: cs)
    | _, _ => none
def aggT (P : Program) (t : TypeId) : Option Bool :=
  match P.underlying t with
  | some (.struct _) => some true
  | some (.array _ _) => some true
  | some _ => some false
  | none => none
def shT (P : Program) (t : TypeId) : Option Sh :=
  match aggT P t, (P.info? t).bind (·.zero) with
  | some true, some (.agg cs) => (sh1s cs.toList).map .agg
  | some false, some v => (sh1Of v).map .c
  | _, _ => none
def sizeT (P : Program) (t : TypeId) : Option Nat := (P.info? t).map (·.size)
def zeroT (P : Program) (t : TypeId) : Option (List Cell) := (P.info? t).bind (·.zero) |>.bind fun z => ofVs z.cells.toList
def bytesT (P : Program) (t : TypeId) : Option Nat := (P.info? t).map (·.bytes)
def elemT (P : Program) (t : TypeId) : Option TypeId :=
  match P.underlying t with
  | some (.slice e) => some e
  | _ => none
def fieldT (P : Program) (s : TypeId) (f : Nat) : Option (Nat × TypeId) :=
  match P.underlying s with
  | some (.struct fs) => (fs[f]?).map fun x => (x.offset, x.type)
  | _ => none
def intT (P : Program) (t : TypeId) : Option IntKind :=
  match P.underlying t with
  | some (.int k) => some k
  | _ => none
def rowOf (z : List Cell) (n : Nat) : List Cell := (List.range n).map fun i => (z[i % z.length]?).getD .tt
def structT (P : Program) (t : TypeId) : Option (List Field) :=
  match P.underlying t with
  | some (.struct fs) => some fs.toList
  | _ => none
def placesT (P : Program) : List Field → Option (List (Nat × Nat))
  | [] => some []
  | f :: fs => match sizeT P f.type, placesT P fs with
    | some s, some l => some ((f.offset, s) :: l)
    | _, _ => none
def nilOk : Value → Prop
  | .func (.func _) _ _ => True
  | .iface _ _ => True
  | _ => False
def mulN (n sz : Nat) : Nat := match sz with | 1 => n | _ => n * sz
def slBase (p : Option PA) (m lo sz : Nat) : Option PA := if m = lo then p else p.map fun a => (a.1, a.2 + mulN lo sz)
def intOp (op : BinOp) (kd : IntKind) (a b : Int) (k : AV → M) : M :=
  match op with
  | .add => .guard (InK kd (a + b)) (k (.c (.int kd (a + b))))
  | .sub => .guard (InK kd (a - b)) (k (.c (.int kd (a - b))))
  | .mul => .guard (InK kd (a * b)) (k (.c (.int kd (a * b))))
  | .quo => .guard (b ≠ 0 ∧ InK kd (a.tdiv b)) (k (.c (.int kd (a.tdiv b))))
  | .rem => .guard (b ≠ 0) (k (.c (.int kd (a.tmod b))))
  | .shr => .guard (0 ≤ b ∧ b.toNat ≤ kd.bits) (k (.c (.int kd (a.fdiv (2 ^ b.toNat)))))
  | .shl => .guard (0 ≤ b ∧ b.toNat ≤ kd.bits ∧ InK kd (a * 2 ^ b.toNat)) (k (.c (.int kd (a * 2 ^ b.toNat))))
  | .eql => k (.c (.bool (a == b)))
  | .neq => k (.c (.bool (a != b)))
  | .lss => k (.c (.bool (a < b)))
  | .leq => k (.c (.bool (a ≤ b)))
  | .gtr => k (.c (.bool (a > b)))
  | .geq => k (.c (.bool (a ≥ b)))
  | _ => .fail
def strOp (op : BinOp) (x y : ByteArray) (k : AV → M) : M :=
  match op with
  | .eql => k (.c (.bool (x.toList == y.toList)))
  | .neq => k (.c (.bool (!(x.toList == y.toList))))
  | .lss => k (.c (.bool (Op.bytesLess x.toList y.toList)))
  | .leq => k (.c (.bool (Op.bytesLess x.toList y.toList || x.toList == y.toList)))
  | .gtr => k (.c (.bool (!(Op.bytesLess x.toList y.toList || x.toList == y.toList))))
  | .geq => k (.c (.bool (!Op.bytesLess x.toList y.toList)))
  | _ => .fail
def boolOf : Cell → Option Bool
  | .bool b => some b
  | .tt => some true
  | .ff => some false
  | _ => none
def sliceOp (p : Option PA) (l c sz : Nat) (lo hi mx : Option Int) (k : AV → M) : M :=
  match lo, hi, mx with
  | none, none, none => k (.c (.sl (slBase p c 0 sz) (l - 0) (c - 0)))
  | some a, none, none => .guard (0 ≤ a ∧ a ≤ l) (k (.c (.sl (slBase p c a.toNat sz) (l - a.toNat) (c - a.toNat))))
  | none, some b, none => .guard (0 ≤ b ∧ b ≤ c) (k (.c (.sl (slBase p c 0 sz) (b.toNat - 0) (c - 0))))
  | some a, some b, none => .guard ((0 ≤ b ∧ b ≤ c) ∧ 0 ≤ a ∧ a ≤ b.toNat) (k (.c (.sl (slBase p c a.toNat sz) (b.toNat - a.toNat) (c - a.toNat))))
  | none, some b, some m => .guard ((0 ≤ m ∧ m ≤ c) ∧ 0 ≤ b ∧ b ≤ m.toNat) (k (.c (.sl (slBase p m.toNat 0 sz) (b.toNat - 0) (m.toNat - 0))))
  | some a, some b, some m => .guard ((0 ≤ m ∧ m ≤ c) ∧ (0 ≤ b ∧ b ≤ m.toNat) ∧ 0 ≤ a ∧ a ≤ b.toNat) (k (.c (.sl (slBase p m.toNat a.toNat sz) (b.toNat - a.toNat) (m.toNat - a.toNat))))
  | _, _, _ => .fail
def evInt (r : Regs) (x : Operand) (k : Int → M) : M :=
  ev r x fun
    | .c (.int _ n) => k n
    | _ => .fail
def evIntO (r : Regs) : Option Operand → (Option Int → M) → M
  | none, k => k none
  | some x, k => evInt r x fun n => k (some n)
def cellsAV : AV → List Cell
  | .c x => [x]
  | .agg cs => cs
  | .tup _ => []
def isTup : AV → Bool
  | .tup _ => true
  | _ => false
def setCells (cs : List Cell) (off : Nat) : List Cell → List Cell
  | [] => cs
  | c :: r => setCells (cs.set off c) (off + 1) r
def fillC (place : Nat → Option (Nat × Nat)) (cells : List Cell) : List (Nat × AV) → Option (List Cell)
  | [] => some cells
  | (i, v) :: rest =>
    match place i, isTup v with
    | some (off, size), false =>
      match decide ((cellsAV v).length = size ∧ off + (cellsAV v).length ≤ cells.length) with
      | true => fillC place (setCells cells off (cellsAV v)) rest
      | false => none
    | _, _ => none
def evParts (r : Regs) : List (Nat × Operand) → (List (Nat × AV) → M) → M
  | [], k => k []
  | (i, x) :: xs, k => ev r x fun v => evParts r xs fun vs => k ((i, v) :: vs)
def kindEq : IntKind → IntKind → Bool
  | .i8, .i8 => true | .i16, .i16 => true | .i32, .i32 => true | .i64, .i64 => true
  | .u8, .u8 => true | .u16, .u16 => true | .u32, .u32 => true | .u64, .u64 => true
  | _, _ => false
def intM (op : BinOp) (k1 : IntKind) (a : Int) (k2 : IntKind) (b : Int) (k : AV → M) : M :=
  match op with
  | .shr => intOp .shr k1 a b k
  | .shl => intOp .shl k1 a b k
  | op => match kindEq k1 k2 with
    | true => intOp op k1 a b k
    | false => .fail
def nilM (op : BinOp) (b : Bool) (k : AV → M) : M :=
  match op with
  | .eql => k (.c (.bool b))
  | .neq => k (.c (.bool (!b)))
  | _ => .fail
def isPtrT (P : Program) (t : TypeId) : Bool := match P.underlying t with | some (.pointer _) => true | _ => false
def eq1 (P : Program) (t : TypeId) : Option Cell → Option Cell → Option Bool
  | some (.int k a), some (.int k' b) => match P.underlying t with
    | some (.int _) => match kindEq k k' with
      | true => some (a == b)
      | false => none
    | _ => none
  | some (.str a), some (.str b) => match P.underlying t with
    | some .string => some (a == b)
    | _ => none
  | some c, some d => match P.underlying t, boolOf c, boolOf d with
    | some .bool, some a, some b => some (a == b)
    | _, _, _ => none
  | _, _ => none
def eqFs (P : Program) (sub : TypeId → List Cell → List Cell → Option Bool) (cs ds : List Cell) : List Field → Option Bool
  | [] => some true
  | f :: fs => match decide (f.name = "_"), aggT P f.type with
    | false, some false => match eq1 P f.type cs[f.offset]? ds[f.offset]?, eqFs P sub cs ds fs with
      | some b, some r => some (b && r)
      | _, _ => none
    | false, some true => match sizeT P f.type with
      | some n => match sub f.type ((cs.drop f.offset).take n) ((ds.drop f.offset).take n), eqFs P sub cs ds fs with
        | some b, some r => some (b && r)
        | _, _ => none
      | none => none
    | _, _ => none
def eqT (P : Program) : Nat → TypeId → List Cell → List Cell → Option Bool
  | 0, _, _, _ => none
  | d + 1, t, cs, ds => match structT P t, P.stoodInHeld t with
    | some fs, false => eqFs P (eqT P d) cs ds fs
    | _, _ => none
def rawNil : Value → Bool
  | .nilIface => true
  | .nilFunc => true
  | _ => false
def ifOk : Value → Prop
  | .nilIface => True
  | .iface _ _ => True
  | _ => False
def fnOk : Value → Prop
  | .nilFunc => True
  | .func _ _ _ => True
  | _ => False
def noMeths (P : Program) : Value → Prop
  | .nilIface => True
  | .iface t _ => ((P.info? t).map fun i => i.methods.toList.isEmpty) = some true
  | _ => False
def ifIs (t : TypeId) (u : Value) (v : AV) : Prop := u = .iface t v.val
def ifCell (u : Value) (j : Nat) : Value := match u with
  | .iface _ (.agg cs) => (cs[j]?).getD .nilFunc
  | .iface _ v => v
  | _ => .nilFunc
def ifInt (u : Value) (j : Nat) : Int := match ifCell u j with
  | .int _ n => n
  | _ => 0
def ifCells (u : Value) : Nat → List Sh1 → Option (List Cell)
  | _, [] => some []
  | j, .int k :: ss => match ifCells u (j + 1) ss with
    | some cs => some (.int k (ifInt u j) :: cs)
    | none => none
  | _, _ => none
def ifAV (u : Value) : Sh → Option AV
  | .agg ss => (ifCells u 0 ss).map .agg
  | .c (.int k) => some (.c (.int k (ifInt u 0)))
  | _ => none
def binM (P : Program) (op : BinOp) (t : TypeId) (vx vy : AV) (k : AV → M) : M :=
  match vx, vy with
  | .c (.int k1 a), .c (.int k2 b) => intM op k1 a k2 b k
  | .c (.str a), .c (.str b) => strOp op a b k
  | .c (.ptr p), .c (.ptr none) =>
    match isPtrT P t with
    | true => nilM op p.isNone k
    | false => .fail
  | .c (.addr _), .c (.ptr none) =>
    match isPtrT P t with
    | true => nilM op false k
    | false => .fail
  | .c (.sl p _ _), .c (.sl none _ _) =>
    match elemT P t with
    | some _ => nilM op p.isNone k
    | none => .fail
  | .agg cs, .agg ds =>
    match P.eqGuardType P.depth t with
    | false => match eqT P 3 t cs ds with
      | some b => nilM op b k
      | none => .fail
    | true => .fail
  | .c (.raw u), .c (.raw .nilIface) => match P.underlying t with
    | some (.interface ms) => match ms.isEmpty with
      | true => .guard (ifOk u) (nilM op (rawNil u) k)
      | false => .fail
    | _ => .fail
  | .c (.raw u), .c (.raw .nilFunc) => match P.underlying t with
    | some (.func _ _ _) => .guard (fnOk u) (nilM op (rawNil u) k)
    | _ => .fail
  | .c x, .c y => match P.underlying t, boolOf x, boolOf y with
    | some .bool, some a, some b => nilM op (a == b) k
    | _, _, _ => .fail
  | _, _ => .fail
def minI (a b : Int) : Int := if b < a then b else a
def pureBuiltin (P : Program) (b : Builtin) (args : List Operand) (ts : List TypeId) (r : Regs) (k : AV → M) : M :=
  match b, args, ts with
  | .len, [x], [t] => ev r x fun
    | .c (.sl _ l _) =>
      match elemT P t with
      | some _ => k (.c (.int .i64 l))
      | none => .fail
    | .c (.str s) =>
      match P.underlying t with
      | some .string => k (.c (.int .i64 s.size))
      | _ => .fail
    | _ => .fail
  | .cap, [x], [t] => ev r x fun
    | .c (.sl _ _ c) =>
      match elemT P t with
      | some _ => k (.c (.int .i64 c))
      | none => .fail
    | _ => .fail
  | .min, [x, y], _ => ev r x fun
    | .c (.int k1 a) => ev r y fun
      | .c (.int _ b) => k (.c (.int k1 (minI a b)))
      | _ => .fail
    | _ => .fail
  | _, _, _ => .fail
def pureOp (P : Program) (o : Oper) (r : Regs) (k : AV → M) : M :=
  match o.op with
  | .move x => ev r x k
  | .assign x => ev r x k
  | .pick c a b => ev r c fun
    | .c .tt => ev r a k
    | .c .ff => ev r b k
    | _ => .fail
  | .nilCheck x => ev r x fun
    | .c (.addr p) => k (.c (.addr p))
    | .c (.ptr p) => .nonnil p fun a => k (.c (.addr a))
    | .c (.raw v) => .guard (nilOk v) (k (.c (.raw v)))
    | _ => .fail
  | .fieldAddr s x f => ev r x fun
    | .c (.addr p) =>
      match fieldT P s f with
      | some (off, t) =>
        match sizeT P t with
        | some (_ + 1) => k (.c (.addr (p.1, p.2 + off)))
        | _ => .fail
      | none => .fail
    | _ => .fail
  | .field s x f => ev r x fun
    | .agg cs =>
      match fieldT P s f with
      | some (off, t) =>
        match aggT P t, sizeT P t with
        | some true, some n => k (.agg ((cs.drop off).take n))
        | some false, some _ =>
          match cs[off]? with
          | some c => k (.c c)
          | none => .fail
        | _, _ => .fail
      | none => .fail
    | _ => .fail
  | .indexAddr t x i => ev r x fun
    | .c (.sl p l _) => evInt r i fun n =>
      match elemT P t with
      | some e =>
        match sizeT P e with
        | some sz => .nonnil p fun a => .guard (0 ≤ n ∧ n < l) (k (.c (.addr (a.1, a.2 + mulN n.toNat sz))))
        | none => .fail
      | none => .fail
    | .c (.addr p) => evInt r i fun n =>
      match P.underlying t with
      | some (.array len e) =>
        match sizeT P e with
        | some sz => .guard (0 ≤ n ∧ n < len) (k (.c (.addr (p.1, p.2 + mulN n.toNat sz))))
        | none => .fail
      | _ => .fail
    | _ => .fail
  | .binOp op t x y _ => ev r x fun vx => ev r y fun vy => binM P op t vx vy k
  | .unOp .not _ x => ev r x fun
    | .c (.bool b) => k (.c (.bool (!b)))
    | .c .tt => k (.c .ff)
    | .c .ff => k (.c .tt)
    | _ => .fail
  | .unOp .neg _ x => ev r x fun
    | .c (.int kd n) => .guard (InK kd (0 - n)) (k (.c (.int kd (0 - n))))
    | _ => .fail
  | .convert s t x => ev r x fun
    | .c (.int _ n) =>
      match P.underlying s, intT P t with
      | some _, some kd => .guard (InK kd n) (k (.c (.int kd n)))
      | _, _ => .fail
    | _ => .fail
  | .makeInterface t x => ev r x fun v =>
    match P.underlying t with
    | some (.interface _) => .fail
    | some _ => k (.c (.raw (.iface t v.val)))
    | none => .fail
  | .typeAssert x _ asserted true => ev r x fun
    | .c (.raw u) =>
      match P.underlying asserted, (P.info? asserted).bind (·.zero) with
      | some (.interface want), some z =>
        match want.toList, ofV1 z with
        | _ :: _, some c => .guard (noMeths P u) (k (.tup [(false, [c]), (false, [.ff])]))
        | _, _ => .fail
      | _, _ => .fail
    | _ => .fail
  | .typeAssert x _ asserted false => ev r x fun
    | .c (.raw u) =>
      match P.underlying asserted, (shT P asserted).bind (ifAV u) with
      | some (.interface _), _ => .fail
      | some _, some v => .guard (ifIs asserted u v) (k v)
      | _, _ => .fail
    | _ => .fail
  | .makeFunc fn first cap => evs r first.toList fun xs => evs r cap.toList fun ys =>
      k (.c (.raw (.func fn (xs.map AV.val).toArray (ys.map AV.val).toArray)))
  | .slice t x lo hi mx => ev r x fun
    | .c (.sl p l c) => evIntO r lo fun a => evIntO r hi fun b => evIntO r mx fun m =>
      match elemT P t with
      | some e =>
        match sizeT P e with
        | some sz => sliceOp p l c sz a b m k
        | none => .fail
      | none => .fail
    | .c (.addr p) => evIntO r lo fun a => evIntO r hi fun b => evIntO r mx fun m =>
      match P.underlying t with
      | some (.array n e) =>
        match sizeT P e with
        | some sz => sliceOp (some p) n n sz a b m k
        | none => .fail
      | _ => .fail
    | _ => .fail
  | .extract x i => ev r x fun
    | .tup vs =>
      match vs[i]? with
      | some (true, cs) => k (.agg cs)
      | some (false, [c]) => k (.c c)
      | _ => .fail
    | _ => .fail
  | .build t parts => evParts r parts.toList fun vs =>
    match structT P t, zeroT P t with
    | some fs, some z =>
      match placesT P fs with
      | some places =>
        match fillC (fun i => places[i]?) z vs with
        | some cells => k (.agg cells)
        | none => .fail
      | none => .fail
    | _, _ => .fail
  | .call c => match c.callee with
    | .builtin b => pureBuiltin P b c.args.toList c.argTypes.toList r k
    | _ => .fail
  | _ => .fail
def loads (p : PA) : (ss : List Sh1) → (List Cell → M) → M
  | [], k => k []
  | s :: ss, k => .load p s fun x => loads (p.1, p.2 + 1) ss fun cs => k (s.mk x :: cs)
def loadOp (P : Program) (t : TypeId) (x : Operand) (r : Regs) (k : PA → AV → M) : M :=
  ev r x fun
    | .c (.addr p) =>
      match shT P t with
      | some (.c s) => .load p s fun x => k p (.c (s.mk x))
      | some (.agg ss) =>
        match sizeT P t with
        | some n =>
          match Nat.beq n ss.length with
          | true => loads p ss fun cs => k p (.agg cs)
          | false => .fail
        | none => .fail
      | none => .fail
    | _ => .fail
def stores (p : PA) : List Cell → M → M
  | [], k => k
  | c :: cs, k => .store p c (stores (p.1, p.2 + 1) cs k)
def resShapes (P : Program) (t : TypeId) : Option (Bool × List Sh) :=
  match P.underlying t with
  | some (.tuple ts) => (ts.toList.mapM (shT P)).map fun ss => (true, ss)
  | _ => (shT P t).map fun s => (false, [s])
def resAV : (tup : Bool) → (ss : List Sh) → SV ss → Option AV
  | true, ss, x => some (.tup (SV.comps ss x))
  | false, [s], x => some (s.mk x.1)
  | false, _, _ => none
def slOf : AV → Option SlT
  | .c (.sl p l c) => some (p, l, c)
  | _ => none
noncomputable def callOp (P : Program) (c : Callee) (args : List Operand) (ts : List TypeId) (ty : TypeId) (r : Regs) (k : Option AV → M) : M :=
  match c, args, ts with
  | .builtin .append, [d, s], [t, u] => ev r d fun vd => ev r s fun vs =>
    match slOf vd, slOf vs, elemT P t, elemT P u with
    | some d, some s, some e, some _ =>
      match sizeT P e, zeroT P e, bytesT P e, gd e with
      | some sz, some z, some byt, true => .append e sz byt z d s fun s => k (some (.c (.sl s.1 s.2.1 s.2.2)))
      | _, _, _, _ => .fail
    | some d, none, some e, none => match vs, P.underlying u with
      | .c (.int _ n), some (.int _) => match sizeT P e, zeroT P e, bytesT P e, gd e with
        | some sz, some z, some byt, true => .appendZ e sz byt z d n fun s => k (some (.c (.sl s.1 s.2.1 s.2.2)))
        | _, _, _, _ => .fail
      | _, _ => .fail
    | _, _, _, _ => .fail
  | .builtin .copy, [d, s], [t, u] => ev r d fun vd => ev r s fun vs =>
    match slOf vd, slOf vs, elemT P t, elemT P u with
    | some d, some s, some e, some _ =>
      match sizeT P e with
      | some sz => .copy sz d s fun n => k (some (.c (.int .i64 n)))
      | none => .fail
    | _, _, _, _ => .fail
  | .value (.func f), args, _ => evs r args fun vs =>
    match (P.funcs[f]?).map (fun fn => fn.body.isSome && fn.name != "runtime.NumGoroutine"), resShapes P ty with
    | some true, some (tup, ss) => .call f vs tup ss fun x => match resAV tup ss x with
      | some v => k (some v)
      | none => .fail
    | _, _ => .fail
  | .value (.tmp t), args, _ => ev r (.tmp t) fun
    | .c (.raw v) => evs r args fun vs =>
      match resShapes P ty with
      | some (tup, ss) => .callv v vs tup ss fun x => match resAV tup ss x with
        | some v => k (some v)
        | none => .fail
      | none => .fail
    | _ => .fail
  | _, _, _ => .fail
noncomputable def effOp (P : Program) (o : Oper) (r : Regs) (k : Option AV → M) : M :=
  match o.op with
  | .alloc e =>
    match zeroT P e, gd e with
    | some cs, true => .alloc e cs fun b => k (some (.c (.addr (b, 0))))
    | _, _ => .fail
  | .box e x => ev r x fun v =>
    match isTup v, gd e with
    | false, true => .alloc e (cellsAV v) fun b => k (some (.c (.addr (b, 0))))
    | _, _ => .fail
  | .buildSlice t len parts => evParts r parts.toList fun vs =>
    match elemT P t with
    | some e =>
      match sizeT P e, zeroT P e with
      | some sz, some z =>
        match decide (len * sz ≤ 16777216 ∧ z.length = sz ∧ 0 < sz) && gd e with
        | true =>
          match fillC (fun i => some (i * sz, sz)) (rowOf z (len * sz)) vs with
          | some cells => .alloc e cells fun b => k (some (.c (.sl (some (b, 0)) len len)))
          | none => .fail
        | false => .fail
      | _, _ => .fail
    | none => .fail
  | .store t a x => ev r a fun
    | .c (.addr p) => ev r x fun v =>
      match isTup v, sizeT P t with
      | false, some n =>
        match Nat.beq (cellsAV v).length n with
        | true => stores p (cellsAV v) (k none)
        | false => .fail
      | _, _ => .fail
    | _ => .fail
  | .makeSlice t l c => evInt r l fun a => evInt r c fun b =>
    match elemT P t with
    | some e =>
      match sizeT P e, zeroT P e, bytesT P e, gd e with
      | some sz, some z, some byt, true => .make e sz byt z a b fun s => k (some (.c (.sl s.1 s.2.1 s.2.2)))
      | _, _, _, _ => .fail
    | none => .fail
  | .call c => callOp P c.callee c.args.toList c.argTypes.toList o.type r k
  | _ => .fail
end Go.Proofs.Ytegnpimlfphncaa
namespace Go.Proofs.Ytegnpimlfphncaa
open Go
structure Rel (n : Nat) (r : Regs) (a : Act) : Prop where
  val : ∀ t v, r t = some v → a.tmps.getD t undef = v.val
  size : a.tmps.size = n
  defers : a.defers = []
theorem ofV1_val {v : Value} {c : Cell} (h : ofV1 v = some c) : c.val = v := by
  unfold ofV1 at h
  split at h <;> simp at h <;> subst h <;> rfl
theorem ofVs_val : ∀ {vs : List Value} {cs : List Cell}, ofVs vs = some cs → cs.map Cell.val = vs
  | [], cs, h => by simp [ofVs] at h; subst h; rfl
  | v :: vs, cs, h => by
    simp only [ofVs] at h
    split at h
    · rename_i c cs' h1 h2
      simp at h; subst h
      simp [ofV1_val h1, ofVs_val h2]
    · simp at h
theorem ofV_val {v : Value} {av : AV} (h : ofV v = some av) : av.val = v := by
  unfold ofV at h
  split at h
  · rename_i cs
    simp only [Option.map_eq_some_iff] at h
    obtain ⟨l, h1, rfl⟩ := h
    simp [AV.val, ofVs_val h1]
  · simp only [Option.map_eq_some_iff] at h
    obtain ⟨l, h1, rfl⟩ := h
    exact ofV1_val h1
section
variable {P : Program} {n : Nat} {r : Regs} {a : Act} {Q : Ex → List AV → H → Prop} {h : H}
theorem Rel.eval (hr : Rel n r a) {x : Operand} {v : AV} (hv : evo r x = some v) : a.eval x = v.val := by
  cases x with
  | tmp t => exact hr.val t v hv
  | const u => exact (ofV_val hv).symm
  | global g => simp [evo] at hv; subst hv; rfl
  | func f => simp [evo] at hv; subst hv; rfl
theorem ev_wp {x : Operand} {k : AV → M} (hw : wp P (ev r x k) Q h) : ∃ v, evo r x = some v ∧ wp P (k v) Q h := by
  unfold ev at hw
  split at hw
  · exact ⟨_, ‹_›, hw⟩
  · exact hw.elim
theorem evs_wp (hr : Rel n r a) : ∀ {xs : List Operand} {k : List AV → M}, wp P (evs r xs k) Q h → ∃ vs, xs.map a.eval = vs.map AV.val ∧ wp P (k vs) Q h
  | [], k, hw => ⟨[], rfl, hw⟩
  | x :: xs, k, hw => by
    obtain ⟨v, hv, hw⟩ := ev_wp hw
    obtain ⟨vs, hvs, hw⟩ := evs_wp hr hw
    exact ⟨v :: vs, by simp [hr.eval hv, hvs], hw⟩
theorem evParts_wp (hr : Rel n r a) : ∀ {xs : List (Nat × Operand)} {k : List (Nat × AV) → M}, wp P (evParts r xs k) Q h →
    ∃ vs, xs.map (fun x => (x.1, a.eval x.2)) = vs.map (fun x => (x.1, x.2.val)) ∧ wp P (k vs) Q h
  | [], k, hw => ⟨[], rfl, hw⟩
  | (i, x) :: xs, k, hw => by
    obtain ⟨v, hv, hw⟩ := ev_wp hw
    obtain ⟨vs, hvs, hw⟩ := evParts_wp hr hw
    exact ⟨(i, v) :: vs, by simp [hr.eval hv, hvs], hw⟩
theorem evInt_wp (hr : Rel n r a) {x : Operand} {k : Int → M} (hw : wp P (evInt r x k) Q h) : ∃ kd m, a.eval x = .int kd m ∧ wp P (k m) Q h := by
  obtain ⟨v, hv, hw⟩ := ev_wp hw
  split at hw
  · exact ⟨_, _, hr.eval hv, hw⟩
  · exact hw.elim
theorem evIntO_wp (hr : Rel n r a) {x : Option Operand} {k : Option Int → M} (hw : wp P (evIntO r x k) Q h) :
    (x = none ∧ wp P (k none) Q h) ∨ ∃ kd m y, x = some y ∧ a.eval y = .int kd m ∧ wp P (k (some m)) Q h := by
  cases x with
  | none => exact .inl ⟨rfl, hw⟩
  | some x =>
    obtain ⟨kd, m, h1, h2⟩ := evInt_wp hr hw
    exact .inr ⟨kd, m, x, rfl, h1, h2⟩
end
theorem mulN_eq (n sz : Nat) : mulN n sz = n * sz := by
  unfold mulN; split <;> simp
theorem kindEq_eq {a b : IntKind} (h : kindEq a b = true) : a = b := by
  cases a <;> cases b <;> first | rfl | (simp [kindEq] at h)
section
variable {P : Program} {t : TypeId}
theorem size_of_sizeT {n : Nat} (hs : sizeT P t = some n) : ∃ i, P.info? t = some i ∧ i.size = n := by
  simpa [sizeT] using hs
theorem under_of_elemT {e : TypeId} (he : elemT P t = some e) : P.underlying t = some (.slice e) := by
  unfold elemT at he
  split at he
  · simp at he; subst he; assumption
  · simp at he
theorem run_sizeOf {n : Nat} (hs : sizeT P t = some n) (w : World) : (sizeOf t).run P w = .ok n w := by
  obtain ⟨i, hi, rfl⟩ := size_of_sizeT hs
  simp [sizeOf, typeInfo, hi]
theorem aggT_some {b : Bool} (h : aggT P t = some b) (w : World) : (isAgg t).run P w = .ok b w := by
  unfold aggT at h
  split at h <;> simp at h <;> subst h
  · simp [isAgg, run_underlying ‹_›]
  · simp [isAgg, run_underlying ‹_›]
  · rename_i d h1 h2 h3
    simp only [isAgg, Sem.run_bind, run_underlying h3, Result.andThen_ok]
    cases d <;> first | rfl | exact (h1 _ rfl).elim | exact (h2 _ _ rfl).elim
theorem fieldT_some {f off : Nat} {u : TypeId} (h : fieldT P t f = some (off, u)) : ∃ fs fld, P.underlying t = some (.struct fs) ∧ fs[f]? = some fld ∧ fld.offset = off ∧ fld.type = u := by
  unfold fieldT at h
  split at h
  · rename_i fs hu
    simp only [Option.map_eq_some_iff, Prod.mk.injEq] at h
    obtain ⟨x, hx, h1, h2⟩ := h
    exact ⟨fs, x, hu, hx, h1, h2⟩
  · simp at h
end
theorem run_boundOk {P : Program} {kd : IntKind} {i : Int} {y : Nat} {cd : BoundsCode} (h : 0 ≤ i ∧ i ≤ y) (w : World) :
    (Instr.sliceBound (.int kd i) y cd).run P w = .ok i.toNat w := by
  simp [Instr.sliceBound, asIntOf, h.1, h.2]
theorem sl_base_val (p : Option PA) (m lo sz : Nat) : (if m = lo then p.map PA.val else (p.map PA.val).map (·.add (lo * sz))) = (slBase p m lo sz).map PA.val := by
  simp only [slBase, mulN_eq]
  split
  · rfl
  · cases p with
    | none => rfl
    | some a =>
      simp only [Option.map_some, Option.some.injEq, Addr.add, PA.val]
      split
      · rename_i h; rw [h]; rfl
      · rfl
theorem add_val (p : PA) (n : Nat) : p.val.add n = PA.val (p.1, p.2 + n) := by
  unfold Addr.add PA.val
  split
  · rename_i h; rw [h]; rfl
  · rfl
theorem run_slice3 {P : Program} {Q : Ex → List AV → H → Prop} {h : H} (isSlice : Bool) {p : Option PA} {l c sz : Nat} {k : AV → M}
    {lo hi mx : Option Int} {vlo vhi vmx : Option Value} (hlo : vlo = none ∧ lo = none ∨ ∃ kd n, vlo = some (.int kd n) ∧ lo = some n)
    (hhi : vhi = none ∧ hi = none ∨ ∃ kd n, vhi = some (.int kd n) ∧ hi = some n)
    (hmx : vmx = none ∧ mx = none ∨ ∃ kd n, vmx = some (.int kd n) ∧ mx = some n)
    (hw : wp P (sliceOp p l c sz lo hi mx k) Q h) :
    ∃ L Hh Mm, (∀ w, (Instr.sliceBounds isSlice l c vlo vhi vmx).run P w = .ok (L, Hh, Mm) w) ∧ wp P (k (.c (.sl (slBase p Mm L sz) (Hh - L) (Mm - L)))) Q h := by
  rcases hlo with ⟨rfl, rfl⟩ | ⟨k1, x1, rfl, rfl⟩ <;> rcases hhi with ⟨rfl, rfl⟩ | ⟨k2, x2, rfl, rfl⟩ <;> rcases hmx with ⟨rfl, rfl⟩ | ⟨k3, x3, rfl, rfl⟩ <;>
    simp only [sliceOp, wp] at hw
  · exact ⟨0, l, c, fun w => by simp [Instr.sliceBounds], hw⟩
  · exact ⟨0, x2.toNat, c, fun w => by simp [Instr.sliceBounds, run_boundOk hw.1], hw.2⟩
  · exact ⟨0, x2.toNat, x3.toNat, fun w => by simp [Instr.sliceBounds, run_boundOk hw.1.1, run_boundOk hw.1.2], hw.2⟩
  · exact ⟨x1.toNat, l, c, fun w => by simp [Instr.sliceBounds, run_boundOk hw.1], hw.2⟩
  · exact ⟨x1.toNat, x2.toNat, c, fun w => by simp [Instr.sliceBounds, run_boundOk hw.1.1, run_boundOk hw.1.2], hw.2⟩
  · exact ⟨x1.toNat, x2.toNat, x3.toNat, fun w => by simp [Instr.sliceBounds, run_boundOk hw.1.1, run_boundOk hw.1.2.1, run_boundOk hw.1.2.2], hw.2⟩
theorem setCells_val : ∀ (new cs : List Cell) (off : Nat),
    ((setCells cs off new).map Cell.val).toArray = (new.map Cell.val).toArray.zipIdx.foldl (fun a (c, j) => a.setIfInBounds (off + j) c) (cs.map Cell.val).toArray := by
  have key : ∀ (new cs : List Cell) (off i : Nat),
    ((setCells cs (off + i) new).map Cell.val).toArray = ((new.map Cell.val).zipIdx i).foldl (fun a (c, j) => a.setIfInBounds (off + j) c) (cs.map Cell.val).toArray := by
    intro new
    induction new with
    | nil => intro cs off i; simp [setCells]
    | cons c r ih =>
      intro cs off i
      simp only [setCells, List.map_cons, List.zipIdx_cons, List.foldl_cons]
      have := ih (cs.set (off + i) c) off (i + 1)
      rw [show off + i + 1 = off + (i + 1) by omega, this]
      congr 1
      simp
  intro new cs off
  have := key new cs off 0
  simpa using this
theorem Cell.cells_val (c : Cell) : c.val.cells = #[c.val] := by
  cases c <;> try rfl
  rename_i v
  cases v <;> rfl
theorem cells_val {v : AV} (h : isTup v = false) : v.val.cells = ((cellsAV v).map Cell.val).toArray := by
  cases v with
  | c x => simp [AV.val, cellsAV, x.cells_val]
  | agg cs => rfl
  | tup vs => simp [isTup] at h
end Go.Proofs.Ytegnpimlfphncaa
namespace Go.Proofs.Ytegnpimlfphncaa
open Go
def Yld (P : Program) (o : Oper) (a : Act) (v : Value) : Prop := ∀ w, (execOp a.eval o).run P w = .ok (.value v) w
theorem intOp_wp {P : Program} {Q : Ex → List AV → H → Prop} {h : H} {op : BinOp} {kd : IntKind} {x y : Int} {k : AV → M} (hne : op ≠ .shr) (hne2 : op ≠ .shl) (hw : wp P (intOp op kd x y k) Q h) :
    ∃ v : AV, (∀ (t : TypeId) (w : World), (binOp op t (.int kd x) (.int kd y)).run P w = .ok v.val w) ∧ wp P (k v) Q h := by
  cases op <;> simp only [intOp, wp, ne_eq, not_true_eq_false] at hw hne hne2
  case add => exact ⟨_, fun t w => by simp [binOp, Op.intArith, AV.val, Cell.val]; exact hw.1, hw.2⟩
  case sub => exact ⟨_, fun t w => by simp [binOp, Op.intArith, AV.val, Cell.val]; exact hw.1, hw.2⟩
  case mul => exact ⟨_, fun t w => by simp [binOp, Op.intArith, AV.val, Cell.val]; exact hw.1, hw.2⟩
  case quo => exact ⟨_, fun t w => by simp [binOp, Op.intDiv, AV.val, Cell.val, hw.1.1]; exact hw.1.2, hw.2⟩
  case rem => exact ⟨_, fun t w => by simp [binOp, Op.intDiv, AV.val, Cell.val, hw.1], hw.2⟩
  case eql => exact ⟨_, fun t w => by simp [binOp, Op.intCmp, AV.val, Cell.val], hw⟩
  case neq => exact ⟨_, fun t w => by simp [binOp, Op.intCmp, AV.val, Cell.val], hw⟩
  case lss => exact ⟨_, fun t w => by simp [binOp, Op.intCmp, AV.val, Cell.val], hw⟩
  case leq => exact ⟨_, fun t w => by simp [binOp, Op.intCmp, AV.val, Cell.val], hw⟩
  case gtr => exact ⟨_, fun t w => by simp [binOp, Op.intCmp, AV.val, Cell.val], hw⟩
  case geq => exact ⟨_, fun t w => by simp [binOp, Op.intCmp, AV.val, Cell.val], hw⟩
theorem shrOp_wp {P : Program} {Q : Ex → List AV → H → Prop} {h : H} {kd k2 : IntKind} {x y : Int} {k : AV → M} (hw : wp P (intOp .shr kd x y k) Q h) :
    ∃ v : AV, (∀ (t : TypeId) (w : World), (binOp .shr t (.int kd x) (.int k2 y)).run P w = .ok v.val w) ∧ wp P (k v) Q h := by
  simp only [intOp, wp] at hw
  refine ⟨_, fun t w => ?_, hw.2⟩
  have h1 : ¬ y < 0 := by omega
  simp [binOp, Op.shift, h1, AV.val, Cell.val, Nat.min_eq_left hw.1.2]
theorem shlOp_wp {P : Program} {Q : Ex → List AV → H → Prop} {h : H} {kd k2 : IntKind} {x y : Int} {k : AV → M} (hw : wp P (intOp .shl kd x y k) Q h) :
    ∃ v : AV, (∀ (t : TypeId) (w : World), (binOp .shl t (.int kd x) (.int k2 y)).run P w = .ok v.val w) ∧ wp P (k v) Q h := by
  simp only [intOp, wp] at hw
  refine ⟨_, fun t w => ?_, hw.2⟩
  have h1 : ¬ y < 0 := by omega
  have h2 : kd.wrap (x * 2 ^ y.toNat) = x * 2 ^ y.toNat := hw.1.2.2
  simp [binOp, Op.shift, h1, AV.val, Cell.val, Nat.min_eq_left hw.1.2.1, h2]
theorem strOp_wp {P : Program} {Q : Ex → List AV → H → Prop} {h : H} {op : BinOp} {x y : ByteArray} {k : AV → M} (hw : wp P (strOp op x y k) Q h) :
    ∃ v : AV, (∀ (t : TypeId) (w : World), (binOp op t (.string x) (.string y)).run P w = .ok v.val w) ∧ wp P (k v) Q h := by
  cases op <;> simp only [strOp, wp] at hw
  all_goals exact ⟨_, fun t w => by simp [binOp, Op.stringOp, AV.val, Cell.val], hw⟩
theorem eqGuard_ok (P : Program) (op : BinOp) (t : TypeId) (x y : Operand) (u v : Value) (h : ∀ cs, u ≠ .agg cs) (h2 : u ≠ .nilIface) (w : World) : (eqGuard op t x y u v).run P w = .ok () w := by
  unfold eqGuard
  cases op <;> simp <;> cases u <;> simp_all
section
variable {P : Program} {n : Nat} {r : Regs} {a : Act} {Q : Ex → List AV → H → Prop} {h : H} {o : Oper} {k : AV → M}
theorem fill_val {place : Nat → Option (Nat × Nat)} : ∀ {vs : List (Nat × AV)} {cells out : List Cell}, fillC place cells vs = some out →
    Instr.fill place (cells.map Cell.val).toArray (vs.map fun x => (x.1, x.2.val)) = some (out.map Cell.val).toArray
  | [], cells, out, he => by simp [fillC] at he; subst he; rfl
  | (i, v) :: rest, cells, out, he => by
    simp only [fillC] at he
    split at he
    · rename_i off size hp ht
      split at he
      · rename_i hd
        have hd := of_decide_eq_true hd
        have hc := cells_val ht
        have := fill_val he
        simp only [List.map_cons, Instr.fill, hp, hc]
        rw [setCells_val] at this
        rw [if_neg (by simp; omega)]
        exact this
      · simp at he
    · simp at he
theorem eq_ptr_nil {t e : TypeId} (hu : P.underlying t = some (.pointer e)) (p : Option Addr) (w : World) : (Op.equal t (.pointer p) (.pointer none)).run P w = .ok p.isNone w := by
  show (Op.equalIn (9999 + 1) t (.pointer p) (.pointer none)).run P w = _
  cases p <;> rw [Op.equalIn] <;> simp [run_underlying hu]
theorem eq_sl_nil {t e : TypeId} (hu : P.underlying t = some (.slice e)) (p : Option Addr) (l c l2 c2 : Nat) (w : World) : (Op.equal t (.slice p l c) (.slice none l2 c2)).run P w = .ok p.isNone w := by
  show (Op.equalIn (9999 + 1) t (.slice p l c) (.slice none l2 c2)).run P w = _
  cases p <;> rw [Op.equalIn] <;> simp [run_underlying hu]
theorem bin_eq {t : TypeId} {x y : Value} {b : Bool} {op : BinOp} (c : Bool) (hc : op = .eql ∧ c = b ∨ op = .neq ∧ c = !b) (w : World) (he : (Op.equal t x y).run P w = .ok b w)
    (hx : (∃ p q, x = .pointer p ∧ y = .pointer q) ∨ ∃ p l k q l2 k2, x = .slice p l k ∧ y = .slice q l2 k2) : (binOp op t x y).run P w = .ok (.bool c) w := by
  rcases hx with ⟨p, q, rfl, rfl⟩ | ⟨p, l, k, q, l2, k2, rfl, rfl⟩ <;> rcases hc with ⟨rfl, rfl⟩ | ⟨rfl, rfl⟩ <;> simp only [binOp, Sem.run_bind, he] <;> rfl
theorem nil_wp {op : BinOp} {b : Bool} (hw : wp P (nilM op b k) Q h) : ∃ c, (op = .eql ∧ c = b ∨ op = .neq ∧ c = !b) ∧ wp P (k (.c (.bool c))) Q h := by
  unfold nilM at hw
  split at hw
  · exact ⟨b, .inl ⟨rfl, rfl⟩, hw⟩
  · exact ⟨!b, .inr ⟨rfl, rfl⟩, hw⟩
  · exact hw.elim
theorem boolOf_val {c : Cell} {b : Bool} (h : boolOf c = some b) : c.val = .bool b := by
  cases c <;> simp [boolOf] at h <;> subst h <;> rfl
theorem eq1_run {P : Program} {t : TypeId} {c d : Cell} {b : Bool} (h : eq1 P t (some c) (some d) = some b) (n : Nat) (w : World) : (Op.equalIn (n + 1) t c.val d.val).run P w = .ok b w := by
  unfold eq1 at h
  split at h
  · rename_i k a k' a' e1 e2
    obtain rfl := Option.some.inj e1
    obtain rfl := Option.some.inj e2
    split at h
    · rename_i kk hu
      split at h
      · rename_i hk
        obtain rfl := kindEq_eq hk
        obtain rfl := Option.some.inj h
        rw [Op.equalIn]
        simp [run_underlying hu, Cell.val]
      · cases h
    · cases h
  · rename_i a b e1 e2
    obtain rfl := Option.some.inj e1
    obtain rfl := Option.some.inj e2
    split at h
    · rename_i hu
      obtain rfl := Option.some.inj h
      rw [Op.equalIn]
      simp [run_underlying hu, Cell.val]
    · cases h
  · rename_i c' d' hn hn2 e1 e2
    obtain rfl := Option.some.inj e1
    obtain rfl := Option.some.inj e2
    split at h
    · rename_i a b hu ha hb
      obtain rfl := Option.some.inj h
      rw [Op.equalIn, boolOf_val ha, boolOf_val hb]
      simp [run_underlying hu]
    · cases h
  · cases h
theorem eqFs_run {P : Program} {cs ds : List Cell} (N : Nat) {sub : TypeId → List Cell → List Cell → Option Bool} (w : World)
    (hsub : ∀ t cs ds b, sub t cs ds = some b → (Op.equalIn (N + 1) t (.agg (cs.map Cell.val).toArray) (.agg (ds.map Cell.val).toArray)).run P w = .ok b w) : ∀ {fs : List Field} {r : Bool}, eqFs P sub cs ds fs = some r →
    (forIn fs ((none, ()) : Option Bool × Unit) (fun f (__s : Option Bool × Unit) =>
                if f.name ≠ "_" then (do
                  let a ← part f.type (cs.map Cell.val).toArray f.offset
                  let b ← part f.type (ds.map Cell.val).toArray f.offset
                  let c ← Op.equalIn (N + 1) f.type a b
                  if (!c) = true then pure (ForInStep.done (some false, ()))
                    else pure (ForInStep.yield (none, ())) : Sem (ForInStep (Option Bool × Unit)))
                else pure (ForInStep.yield (none, ())))).run P w = .ok (if r then (none, ()) else (some false, ())) w := by
  intro fs
  induction fs with
  | nil => intro r h; simp [eqFs] at h; subst h; simp
  | cons f fs ih =>
    intro r h
    simp only [eqFs] at h
    have key : ∀ (b r' : Bool) (u v : Value), decide (f.name = "_") = false → (part f.type (cs.map Cell.val).toArray f.offset).run P w = .ok u w → (part f.type (ds.map Cell.val).toArray f.offset).run P w = .ok v w →
        (Op.equalIn (N + 1) f.type u v).run P w = .ok b w → eqFs P sub cs ds fs = some r' → r = (b && r') →
        (forIn (f :: fs) ((none, ()) : Option Bool × Unit) (fun f (__s : Option Bool × Unit) =>
                if f.name ≠ "_" then (do
                  let a ← part f.type (cs.map Cell.val).toArray f.offset
                  let b ← part f.type (ds.map Cell.val).toArray f.offset
                  let c ← Op.equalIn (N + 1) f.type a b
                  if (!c) = true then pure (ForInStep.done (some false, ()))
                    else pure (ForInStep.yield (none, ())) : Sem (ForInStep (Option Bool × Unit)))
                else pure (ForInStep.yield (none, ())))).run P w = .ok (if r then (none, ()) else (some false, ())) w := by
      intro b r' u v h1 p1 p2 e h4 hr
      subst hr
      have hn : f.name ≠ "_" := of_decide_eq_false h1
      rw [List.forIn_cons, if_pos hn]
      simp only [Sem.run_bind, p1, p2, e, Result.andThen_ok]
      cases b with
      | false => simp
      | true =>
        simp only [Bool.not_true, Bool.false_eq_true, if_false, Sem.run_pure, Result.andThen_ok, Bool.true_and]
        exact ih h4
    split at h
    · rename_i h1 h2
      split at h
      · rename_i b r' h3 h4
        cases hc : cs[f.offset]? with
        | none => rw [hc] at h3; cases hd : ds[f.offset]? <;> rw [hd] at h3 <;> simp [eq1] at h3
        | some c =>
          cases hd : ds[f.offset]? with
          | none => rw [hc, hd] at h3; cases c <;> simp [eq1] at h3
          | some d =>
            rw [hc, hd] at h3
            exact key b r' c.val d.val h1 (by simp [part, aggT_some h2, hc]) (by simp [part, aggT_some h2, hd]) (eq1_run h3 N w) h4 (Option.some.inj h).symm
      · cases h
    · rename_i h1 h2
      split at h
      · rename_i n hs
        split at h
        · rename_i b r' h3 h4
          refine key b r' (.agg (((cs.drop f.offset).take n).map Cell.val).toArray) (.agg (((ds.drop f.offset).take n).map Cell.val).toArray) h1 ?_ ?_ (hsub _ _ _ _ h3) h4 (Option.some.inj h).symm
          · simp [part, aggT_some h2, run_sizeOf hs, List.map_drop, List.map_take, List.extract_eq_take_drop]
          · simp [part, aggT_some h2, run_sizeOf hs, List.map_drop, List.map_take, List.extract_eq_take_drop]
        · cases h
      · cases h
    · cases h
theorem eqT_run (w : World) : ∀ (d N : Nat) {t : TypeId} {cs ds : List Cell} {b : Bool}, d ≤ N → eqT P d t cs ds = some b →
    (Op.equalIn (N + 1) t (.agg (cs.map Cell.val).toArray) (.agg (ds.map Cell.val).toArray)).run P w = .ok b w
  | 0, _, _, _, _, _, _, h => by simp [eqT] at h
  | d + 1, N, t, cs, ds, b, hN, h => by
    simp only [eqT] at h
    split at h
    · rename_i fs hf hs
      unfold structT at hf
      split at hf
      · rename_i fa hu
        obtain rfl := Option.some.inj hf
        obtain ⟨M, rfl⟩ : ∃ M, N = M + 1 := ⟨N - 1, by omega⟩
        rw [Op.equalIn]
        have := eqFs_run M w (fun t cs ds b hb => eqT_run w d M (by omega) hb) h
        rw [Array.forIn_toList] at this
        simp only [Sem.run_bind, run_underlying hu, Result.andThen_ok, run_program, hs, Bool.false_eq_true, if_false]
        rw [this]
        cases b <;> simp
      · cases hf
    · cases h
theorem if_nil {t : TypeId} {ms : Array (String × TypeId)} (hu : P.underlying t = some (.interface ms)) (hm : ms.isEmpty = true) {u : Value} (hok : ifOk u) {op : BinOp} (c : Bool) (hc : op = .eql ∧ c = rawNil u ∨ op = .neq ∧ c = !rawNil u) (x y : Operand) (w : World) :
    (eqGuard op t x y u .nilIface).run P w = .ok () w ∧ (binOp op t u .nilIface).run P w = .ok (.bool c) w := by
  have he : (Op.equal t u .nilIface).run P w = .ok (rawNil u) w := by
    show (Op.equalIn (9999 + 1) t u .nilIface).run P w = _
    cases u <;> simp [ifOk] at hok <;> rw [Op.equalIn] <;> simp [run_underlying hu, rawNil]
  have hg : (Op.eqGuardIn Op.maxDepth t .nilIface .nilIface).run P w = .ok false w := by
    show (Op.eqGuardIn (9999 + 1) t .nilIface .nilIface).run P w = _
    rw [Op.eqGuardIn]; simp [run_underlying hu, hm]
  cases u <;> simp [ifOk] at hok
  all_goals
    rcases hc with ⟨rfl, rfl⟩ | ⟨rfl, rfl⟩
    all_goals
      refine ⟨?_, ?_⟩
      · simp only [eqGuard]
        first
          | (simp; done)
          | (simp; split <;> simp [hg])
          | (simp [hg])
      · simp only [binOp, Sem.run_bind, he]; rfl
theorem fn_nil {t : TypeId} {a1 : Array TypeId} {a2 : Array TypeId} {a3 : Bool} (hu : P.underlying t = some (.func a1 a2 a3)) {u : Value} (hok : fnOk u) {op : BinOp} (c : Bool) (hc : op = .eql ∧ c = rawNil u ∨ op = .neq ∧ c = !rawNil u) (x y : Operand) (w : World) :
    (eqGuard op t x y u .nilFunc).run P w = .ok () w ∧ (binOp op t u .nilFunc).run P w = .ok (.bool c) w := by
  have he : (Op.equal t u .nilFunc).run P w = .ok (rawNil u) w := by
    show (Op.equalIn (9999 + 1) t u .nilFunc).run P w = _
    cases u <;> simp [fnOk] at hok <;> rw [Op.equalIn] <;> simp [run_underlying hu, rawNil]
  cases u <;> simp [fnOk] at hok
  all_goals
    rcases hc with ⟨rfl, rfl⟩ | ⟨rfl, rfl⟩
    all_goals
      refine ⟨?_, ?_⟩
      · simp [eqGuard]
      · simp only [binOp, Sem.run_bind, he]; rfl
theorem bin_sound {op : BinOp} {t : TypeId} {vx vy : AV} (hw : wp P (binM P op t vx vy k) Q h) :
    ∃ v : AV, (∀ (x y : Operand) (w : World), (eqGuard op t x y vx.val vy.val).run P w = .ok () w ∧ (binOp op t vx.val vy.val).run P w = .ok v.val w) ∧ wp P (k v) Q h := by
  unfold binM at hw
  split at hw
  · rename_i k1 a k2 b
    unfold intM at hw
    split at hw
    · obtain ⟨v, hv, hw⟩ := shrOp_wp (k2 := k2) hw
      exact ⟨v, fun x y w => ⟨eqGuard_ok P _ _ _ _ _ _ (by simp [AV.val, Cell.val]) (by simp [AV.val, Cell.val]) w, hv t w⟩, hw⟩
    · obtain ⟨v, hv, hw⟩ := shlOp_wp (k2 := k2) hw
      exact ⟨v, fun x y w => ⟨eqGuard_ok P _ _ _ _ _ _ (by simp [AV.val, Cell.val]) (by simp [AV.val, Cell.val]) w, hv t w⟩, hw⟩
    · split at hw
      · rename_i hn1 hn2 _ hk
        obtain rfl := kindEq_eq hk
        obtain ⟨v, hv, hw⟩ := intOp_wp (by assumption) (by assumption) hw
        exact ⟨v, fun x y w => ⟨eqGuard_ok P _ _ _ _ _ _ (by simp [AV.val, Cell.val]) (by simp [AV.val, Cell.val]) w, hv t w⟩, hw⟩
      · exact hw.elim
  · obtain ⟨v, hv, hw⟩ := strOp_wp hw
    exact ⟨v, fun x y w => ⟨eqGuard_ok P _ _ _ _ _ _ (by simp [AV.val, Cell.val]) (by simp [AV.val, Cell.val]) w, hv t w⟩, hw⟩
  · rename_i p
    split at hw
    · rename_i hp
      unfold isPtrT at hp
      split at hp
      · rename_i e hu
        obtain ⟨c, hc, hw⟩ := nil_wp hw
        refine ⟨_, fun x y w => ⟨eqGuard_ok P _ _ _ _ _ _ (by simp [AV.val, Cell.val]) (by simp [AV.val, Cell.val]) w, ?_⟩, hw⟩
        exact bin_eq c hc w (by simpa [AV.val, Cell.val] using eq_ptr_nil hu (p.map PA.val) w) (.inl ⟨_, _, rfl, rfl⟩)
      · cases hp
    · exact hw.elim
  · rename_i p
    split at hw
    · rename_i hp
      unfold isPtrT at hp
      split at hp
      · rename_i e hu
        obtain ⟨c, hc, hw⟩ := nil_wp hw
        refine ⟨_, fun x y w => ⟨eqGuard_ok P _ _ _ _ _ _ (by simp [AV.val, Cell.val]) (by simp [AV.val, Cell.val]) w, ?_⟩, hw⟩
        exact bin_eq c hc w (by simpa [AV.val, Cell.val] using eq_ptr_nil hu (some p.val) w) (.inl ⟨_, _, rfl, rfl⟩)
      · cases hp
    · exact hw.elim
  · rename_i p l c2 l2 c3
    split at hw
    · rename_i e hel
      have hu := under_of_elemT hel
      obtain ⟨c, hc, hw⟩ := nil_wp hw
      refine ⟨_, fun x y w => ⟨eqGuard_ok P _ _ _ _ _ _ (by simp [AV.val, Cell.val]) (by simp [AV.val, Cell.val]) w, ?_⟩, hw⟩
      exact bin_eq c hc w (by simpa [AV.val, Cell.val] using eq_sl_nil hu (p.map PA.val) l c2 l2 c3 w) (.inr ⟨_, _, _, _, _, _, rfl, rfl⟩)
    · exact hw.elim
  · rename_i cs ds
    split at hw
    · rename_i hgd
      split at hw
      · rename_i b he
        obtain ⟨c, hc, hw⟩ := nil_wp hw
        have h1 : ∀ w, (Op.equal t (.agg (cs.map Cell.val).toArray) (.agg (ds.map Cell.val).toArray)).run P w = .ok b w := fun w => eqT_run w 3 9999 (by omega) he
        refine ⟨_, fun x y w => ⟨?_, ?_⟩, hw⟩
        · rcases hc with ⟨rfl, _⟩ | ⟨rfl, _⟩ <;> simp [eqGuard, AV.val, run_program, hgd]
        · rcases hc with ⟨rfl, rfl⟩ | ⟨rfl, rfl⟩ <;> simp only [binOp, AV.val, Sem.run_bind, h1] <;> rfl
      · exact hw.elim
    · exact hw.elim
  · rename_i u
    split at hw
    · rename_i ms hu
      split at hw
      · rename_i hm
        obtain ⟨hok, hw⟩ := hw
        obtain ⟨c, hc, hw⟩ := nil_wp hw
        refine ⟨_, fun x y w => ?_, hw⟩
        have e : (AV.c (Cell.raw u)).val = u := by cases u <;> first | rfl | exact hok.elim
        rw [e]
        exact if_nil hu hm hok c hc x y w
      · exact hw.elim
    · exact hw.elim
  · rename_i u
    split at hw
    · rename_i a1 a2 a3 hu
      obtain ⟨hok, hw⟩ := hw
      obtain ⟨c, hc, hw⟩ := nil_wp hw
      refine ⟨_, fun x y w => ?_, hw⟩
      have e : (AV.c (Cell.raw u)).val = u := by cases u <;> first | rfl | exact hok.elim
      rw [e]
      exact fn_nil hu hok c hc x y w
    · exact hw.elim
  · split at hw
    · rename_i a b hu ha hb
      obtain ⟨c, hc, hw⟩ := nil_wp hw
      refine ⟨_, fun x y w => ?_, hw⟩
      show (eqGuard op t x y (Cell.val _) (Cell.val _)).run P w = _ ∧ (binOp op t (Cell.val _) (Cell.val _)).run P w = _
      rw [boolOf_val ha, boolOf_val hb]
      have h1 : (Op.equal t (.bool a) (.bool b)).run P w = .ok (a == b) w := by
        show (Op.equalIn (9999 + 1) t (.bool a) (.bool b)).run P w = _
        rw [Op.equalIn]
        simp [run_underlying hu]
      refine ⟨eqGuard_ok P _ _ _ _ _ _ (by simp) (by simp) w, ?_⟩
      rcases hc with ⟨rfl, rfl⟩ | ⟨rfl, rfl⟩ <;> simp only [binOp, Sem.run_bind, h1] <;> rfl
    · exact hw.elim
  · exact hw.elim
theorem places_run {fs : List Field} {pl : List (Nat × Nat)} (hp : placesT P fs = some pl) (w : World) :
    (fs.mapM (fun f => do pure (f.offset, ← sizeOf f.type) : Field → Sem (Nat × Nat))).run P w = .ok pl w := by
  induction fs generalizing pl with
  | nil => simp [placesT] at hp; subst hp; simp
  | cons f fs ih =>
    simp only [placesT] at hp
    split at hp
    · rename_i s l h1 h2
      simp at hp; subst hp
      have := ih h2
      simp only [List.mapM_cons, Sem.run_bind, run_sizeOf h1, Result.andThen_ok, Sem.run_pure, this]
    · cases hp
theorem zero_of_zeroT {t : TypeId} {cs : List Cell} (hz : zeroT P t = some cs) : ∃ i z, P.info? t = some i ∧ i.zero = some z ∧ z.cells = (cs.map Cell.val).toArray := by
  simp only [zeroT, Option.bind_eq_some_iff] at hz
  obtain ⟨z, ⟨i, hi, hz0⟩, hz1⟩ := hz
  exact ⟨i, z, hi, hz0, by rw [ofVs_val hz1]⟩
theorem build_sound {t : TypeId} {fs : List Field} {z cells : List Cell} {places : List (Nat × Nat)} {parts : Array (Nat × Value)} {vs : List (Nat × AV)}
    (hu : structT P t = some fs) (hz : zeroT P t = some z) (hpl : placesT P fs = some places) (hc : fillC (fun i => places[i]?) z vs = some cells)
    (hp : parts.toList = vs.map fun x => (x.1, x.2.val)) (w : World) : (Instr.build t parts).run P w = .ok (AV.val (.agg cells)) w := by
  obtain ⟨i, z0, hi, hz0, hzc⟩ := zero_of_zeroT hz
  unfold structT at hu
  split at hu
  · rename_i fs' hus
    simp at hu; subst hu
    have hf := fill_val hc
    have hpr := places_run hpl w
    have hpr' : (fs'.mapM (fun f => do pure (f.offset, ← sizeOf f.type) : Field → Sem (Nat × Nat))).run P w = .ok places.toArray w := by
      rw [Array.mapM_eq_mapM_toList]
      simp only [Sem.run_map]
      rw [hpr]
      rfl
    simp only [Instr.build, zeroValue, typeInfo, Sem.run_bind, run_program, Result.andThen_ok, hi, hz0, Sem.run_pure, run_underlying hus, hpr', hzc, hp]
    have e : (fun i : Nat => places.toArray[i]?) = fun i => places[i]? := by funext j; simp
    rw [e, hf]
    rfl
  · cases hu
theorem builtin_sound {b : Builtin} {args : Array Operand} {ats : Array TypeId} (hr : Rel n r a) (hw : wp P (pureBuiltin P b args.toList ats.toList r k) Q h) :
    ∃ v : AV, (∀ (ty : TypeId) (w : World) (cs : Array Bool), (builtin b ats ty cs (args.map a.eval)).run P w = .ok (.value v.val) w) ∧ wp P (k v) Q h := by
  obtain ⟨args⟩ := args
  obtain ⟨ats⟩ := ats
  unfold pureBuiltin at hw
  split at hw
  · rename_i x t ha ht
    simp only at ha ht; subst ha; subst ht
    obtain ⟨v, hv, hw⟩ := ev_wp hw
    have he := hr.eval hv
    split at hw
    · split at hw
      · rename_i e hel
        have hu := under_of_elemT hel
        refine ⟨_, fun ty w cs => ?_, hw⟩
        simp [he, AV.val, Cell.val, builtin, Builtin.len_, run_underlying hu, goInt]
      · exact hw.elim
    · split at hw
      · rename_i hu
        refine ⟨_, fun ty w cs => ?_, hw⟩
        simp [he, AV.val, Cell.val, builtin, Builtin.len_, run_underlying hu, goInt]
      · exact hw.elim
    · exact hw.elim
  · rename_i x t ha ht
    simp only at ha ht; subst ha; subst ht
    obtain ⟨v, hv, hw⟩ := ev_wp hw
    have he := hr.eval hv
    split at hw
    · split at hw
      · rename_i e hel
        have hu := under_of_elemT hel
        refine ⟨_, fun ty w cs => ?_, hw⟩
        simp [he, AV.val, Cell.val, builtin, Builtin.cap_, run_underlying hu, goInt]
      · exact hw.elim
    · exact hw.elim
  · rename_i x y ha
    simp only at ha; subst ha
    obtain ⟨v, hv, hw⟩ := ev_wp hw
    have he := hr.eval hv
    split at hw
    · obtain ⟨u, hu, hw⟩ := ev_wp hw
      have he2 := hr.eval hu
      split at hw
      · refine ⟨_, fun ty w cs => ?_, hw⟩
        simp [he, he2, AV.val, Cell.val, builtin, Builtin.min_, Builtin.min2, minI]
      · exact hw.elim
    · exact hw.elim
  · exact hw.elim
theorem least_some {l : List String} (h : l ≠ []) : ∃ m, Instr.least l = some m := by
  cases l with
  | nil => exact (h rfl).elim
  | cons s r => exact ⟨_, rfl⟩
theorem missing_some {want : Array (String × TypeId)} {x : String × TypeId} {l : List (String × TypeId)} (hw : want.toList = x :: l) {got : Array Method} (hg : got.toList = []) :
    ∃ m, Instr.missingMethod want got = some m := by
  obtain rfl : got = #[] := Array.ext' hg
  unfold Instr.missingMethod
  simp only [hw]
  generalize hl : ((List.filter (fun (x : String × TypeId) => match x with | (name, sig) => !(#[] : Array Method).any fun m => m.name == name && m.sig == sig) (x :: l)).map (·.1)) = ms
  have hne : ms ≠ [] := by subst hl; simp
  simp only [List.partition_eq_filter_filter]
  cases h1 : (ms.filter (not ∘ fun s => s.contains '.')) with
  | cons s r => exact ⟨_, rfl⟩
  | nil =>
    obtain ⟨m, hm⟩ := least_some (l := (ms.filter fun s => s.contains '.').map fun id => (id.splitOn ".").getLastD id) (by
      intro h
      rw [List.map_eq_nil_iff] at h
      cases ms with
      | nil => exact hne rfl
      | cons s r =>
        simp only [List.filter_cons, Function.comp] at h h1
        cases hc : s.contains '.' <;> simp [hc] at h h1)
    exact ⟨m, hm⟩
set_option maxHeartbeats 1000000 in
theorem pure_sound (hr : Rel n r a) (hw : wp P (pureOp P o r k) Q h) : ∃ v : AV, Yld P o a v.val ∧ wp P (k v) Q h := by
  unfold pureOp at hw
  split at hw
  · -- move
    obtain ⟨v, hv, hw⟩ := ev_wp hw
    exact ⟨v, fun w => by simp [execOp, *, hr.eval hv], hw⟩
  · obtain ⟨v, hv, hw⟩ := ev_wp hw
    exact ⟨v, fun w => by simp [execOp, *, hr.eval hv], hw⟩
  · -- pick
    rename_i c x y ho
    obtain ⟨v, hv, hw⟩ := ev_wp hw
    split at hw
    · obtain ⟨u, hu, hw⟩ := ev_wp hw
      exact ⟨u, fun w => by simp [execOp, ho, hr.eval hv, hr.eval hu, AV.val, Cell.val, asBool], hw⟩
    · obtain ⟨u, hu, hw⟩ := ev_wp hw
      exact ⟨u, fun w => by simp [execOp, ho, hr.eval hv, hr.eval hu, AV.val, Cell.val, asBool], hw⟩
    · exact hw.elim
  · -- nilCheck
    rename_i x ho
    obtain ⟨v, hv, hw⟩ := ev_wp hw
    have he := hr.eval hv
    split at hw
    · exact ⟨_, fun w => by simp [execOp, ho, he, AV.val, Cell.val], hw⟩
    · obtain ⟨p, rfl, hw⟩ := hw
      exact ⟨_, fun w => by simp [execOp, ho, he, AV.val, Cell.val], hw⟩
    · rename_i u
      obtain ⟨hn, hw⟩ := hw
      refine ⟨_, fun w => ?_, hw⟩
      cases u with
      | func f x y => cases f <;> simp [nilOk] at hn; simp [execOp, ho, he, AV.val, Cell.val]
      | iface t u => simp [execOp, ho, he, AV.val, Cell.val]
      | _ => simp [nilOk] at hn
    · exact hw.elim
  · -- fieldAddr
    rename_i s x f ho
    obtain ⟨v, hv, hw⟩ := ev_wp hw
    have he := hr.eval hv
    split at hw
    · rename_i p
      split at hw
      · rename_i off t hf
        split at hw
        · rename_i m hs
          obtain ⟨fs, fld, h1, h2, h3, h4⟩ := fieldT_some hf
          refine ⟨_, fun w => ?_, hw⟩
          subst h3; subst h4
          simp [execOp, ho, he, AV.val, Cell.val, Instr.fieldAt, run_underlying h1, h2, Instr.sureAddr, fieldPlace, run_sizeOf hs, add_val]
        · exact hw.elim
      · exact hw.elim
    · exact hw.elim
  · -- field
    rename_i s x f ho
    obtain ⟨v, hv, hw⟩ := ev_wp hw
    have he := hr.eval hv
    split at hw
    · rename_i cs
      split at hw
      · rename_i off t hf
        obtain ⟨fs, fld, h1, h2, h3, h4⟩ := fieldT_some hf
        subst h3; subst h4
        split at hw
        · rename_i m ha hs
          refine ⟨_, fun w => ?_, hw⟩
          simp [execOp, ho, he, AV.val, Instr.field, run_underlying h1, h2, asAgg, part, aggT_some ha, run_sizeOf hs]
        · rename_i m ha hs
          split at hw
          · rename_i c hc
            refine ⟨_, fun w => ?_, hw⟩
            simp [execOp, ho, he, AV.val, Instr.field, run_underlying h1, h2, asAgg, part, aggT_some ha, hc]
          · exact hw.elim
        · exact hw.elim
      · exact hw.elim
    · exact hw.elim
  · -- indexAddr
    rename_i t x i ho
    obtain ⟨v, hv, hw⟩ := ev_wp hw
    have he := hr.eval hv
    split at hw
    · rename_i p l c
      obtain ⟨kd, m, hi, hw⟩ := evInt_wp hr hw
      split at hw
      · rename_i e hel
        split at hw
        · rename_i sz hs
          obtain ⟨q, rfl, hb, hw⟩ := hw
          have hu := under_of_elemT hel
          refine ⟨_, fun w => ?_, hw⟩
          simp [execOp, ho, he, AV.val, Cell.val, hi, Instr.indexAt, asIntOf, run_underlying hu, hb.1, hb.2, run_sizeOf hs, add_val, mulN_eq]
        · exact hw.elim
      · exact hw.elim
    · rename_i p
      obtain ⟨kd, m, hi, hw⟩ := evInt_wp hr hw
      split at hw
      · rename_i len e hu
        split at hw
        · rename_i sz hs
          obtain ⟨hb, hw⟩ := hw
          refine ⟨_, fun w => ?_, hw⟩
          simp [execOp, ho, he, AV.val, Cell.val, hi, Instr.indexAt, asIntOf, run_underlying hu, hb.1, hb.2, run_sizeOf hs, add_val, mulN_eq, Instr.sureAddr]
        · exact hw.elim
      · exact hw.elim
    · exact hw.elim
  · -- binOp
    rename_i op t x y yt ho
    obtain ⟨vx, hvx, hw⟩ := ev_wp hw
    obtain ⟨vy, hvy, hw⟩ := ev_wp hw
    have hx := hr.eval hvx
    have hy := hr.eval hvy
    obtain ⟨v, hv, hw⟩ := bin_sound hw
    refine ⟨v, fun w => ?_, hw⟩
    obtain ⟨h1, h2⟩ := hv x y w
    simp only [execOp, ho, hx, hy]
    simp [h1, h2]
  · -- not
    rename_i t x ho
    obtain ⟨v, hv, hw⟩ := ev_wp hw
    have he := hr.eval hv
    split at hw
    · exact ⟨_, fun w => by simp [execOp, ho, he, AV.val, Cell.val, Op.unary], hw⟩
    · exact ⟨_, fun w => by simp [execOp, ho, he, AV.val, Cell.val, Op.unary], hw⟩
    · exact ⟨_, fun w => by simp [execOp, ho, he, AV.val, Cell.val, Op.unary], hw⟩
    · exact hw.elim
  · -- neg
    rename_i t x ho
    obtain ⟨v, hv, hw⟩ := ev_wp hw
    have he := hr.eval hv
    split at hw
    · exact ⟨_, fun w => by simp [execOp, ho, he, AV.val, Cell.val, Op.unary, Op.intArith]; simpa [InK] using hw.1, hw.2⟩
    · exact hw.elim
  · -- convert
    rename_i s t x ho
    obtain ⟨v, hv, hw⟩ := ev_wp hw
    have he := hr.eval hv
    split at hw
    · rename_i k1 m
      split at hw
      · rename_i d kd hs hk
        refine ⟨_, fun w => ?_, hw.2⟩
        unfold intT at hk
        split at hk
        · rename_i k' hu
          simp at hk; subst hk
          have hwr : k'.wrap m = m := hw.1
          simp [execOp, ho, he, AV.val, Cell.val, convert, run_underlying hs, run_underlying hu, Conv.intToInt, hwr]
        · simp at hk
      · exact hw.elim
    · exact hw.elim
  · -- makeInterface
    rename_i t x ho
    obtain ⟨v, hv, hw⟩ := ev_wp hw
    have he := hr.eval hv
    split at hw
    · exact hw.elim
    · rename_i d hd hu
      refine ⟨_, fun w => ?_, hw⟩
      simp only [execOp, ho, he, Instr.makeInterface]
      cases d <;> first | (exact (hd _ rfl).elim) | simp [run_underlying hu, AV.val, Cell.val]
    · exact hw.elim
  · -- typeAssert
    rename_i x xt asserted ho
    obtain ⟨v, hv, hw⟩ := ev_wp hw
    have he := hr.eval hv
    split at hw
    · rename_i u
      split at hw
      · rename_i want z hu hz
        split at hw
        · rename_i y l c h1 h3
          obtain ⟨hn, hw⟩ := hw
          refine ⟨_, fun w => ?_, hw⟩
          obtain ⟨j, hj, hj2⟩ := Option.bind_eq_some_iff.1 hz
          simp only [execOp, ho, he, Instr.typeAssert, AV.val, Cell.val, Sem.run_bind, run_underlying hu, Result.andThen_ok]
          cases u with
          | nilIface =>
            simp [zeroValue, typeInfo, hj, hj2, compVal]
            exact ⟨(ofV1_val h3).symm, rfl⟩
          | iface t q =>
            obtain ⟨i, hi, hi2⟩ := Option.map_eq_some_iff.1 hn
            obtain ⟨m, hm⟩ := missing_some (got := i.methods) h1 (by simpa using hi2)
            simp [typeInfo, hi, hm, zeroValue, hj, hj2, compVal]
            exact ⟨(ofV1_val h3).symm, rfl⟩
          | _ => exact hn.elim
        · exact hw.elim
      · exact hw.elim
    · exact hw.elim
  · -- typeAssert to one type
    rename_i x xt asserted ho
    obtain ⟨v, hv, hw⟩ := ev_wp hw
    have he := hr.eval hv
    split at hw
    · rename_i u
      split at hw
      · exact hw.elim
      · rename_i d v' hd hu hs
        obtain ⟨hn, hw⟩ := hw
        refine ⟨v', fun w => ?_, hw⟩
        have hn : u = .iface asserted v'.val := hn
        have he' : a.eval x = .iface asserted v'.val := by rw [he, hn]; rfl
        simp only [execOp, ho, he', Instr.typeAssert, Sem.run_bind, run_underlying hu, Result.andThen_ok]
        cases d <;> first | (exact (hd _ rfl).elim) | simp
      · exact hw.elim
    · exact hw.elim
  · -- makeFunc
    rename_i fn first cap ho
    obtain ⟨xs, hxs, hw⟩ := evs_wp hr hw
    obtain ⟨ys, hys, hw⟩ := evs_wp hr hw
    refine ⟨_, fun w => ?_, hw⟩
    have e1 : first.map a.eval = (xs.map AV.val).toArray := by apply Array.ext'; rw [← hxs]; simp
    have e2 : cap.map a.eval = (ys.map AV.val).toArray := by apply Array.ext'; rw [← hys]; simp
    simp [execOp, ho, Instr.makeFunc, AV.val, Cell.val, e1, e2]
  · -- slice
    rename_i t x lo hi mx ho
    obtain ⟨v, hv, hw⟩ := ev_wp hw
    have he := hr.eval hv
    have opt : ∀ {y : Option Operand} {m : Option Int}, (y = none ∧ m = none ∨ ∃ kd i z, y = some z ∧ a.eval z = .int kd i ∧ m = some i) →
        (y.map a.eval = none ∧ m = none ∨ ∃ kd i, y.map a.eval = some (.int kd i) ∧ m = some i) := by
      intro y m hh
      rcases hh with ⟨rfl, rfl⟩ | ⟨kd, i, z, rfl, h1, rfl⟩
      · exact .inl ⟨rfl, rfl⟩
      · exact .inr ⟨kd, i, by simp [h1], rfl⟩
    have ints : ∀ {y : Option Operand} {k : Option Int → M}, wp P (evIntO r y k) Q h → ∃ m, (y.map a.eval = none ∧ m = none ∨ ∃ kd i, y.map a.eval = some (.int kd i) ∧ m = some i) ∧ wp P (k m) Q h := by
      intro y k hh
      rcases evIntO_wp hr hh with ⟨rfl, h1⟩ | ⟨kd, m, z, rfl, h1, h2⟩
      · exact ⟨none, .inl ⟨rfl, rfl⟩, h1⟩
      · exact ⟨some m, .inr ⟨kd, m, by simp [h1], rfl⟩, h2⟩
    split at hw
    · rename_i p l c
      obtain ⟨m1, o1, hw⟩ := ints hw
      obtain ⟨m2, o2, hw⟩ := ints hw
      obtain ⟨m3, o3, hw⟩ := ints hw
      split at hw
      · rename_i e hel
        split at hw
        · rename_i sz hs
          obtain ⟨L, Hh, Mm, hrun, hw⟩ := run_slice3 true o1 o2 o3 hw
          have hu := under_of_elemT hel
          refine ⟨_, fun w => ?_, hw⟩
          simp [execOp, ho, he, AV.val, Cell.val, Instr.sliceAt, Instr.slice, run_underlying hu, hrun, run_sizeOf hs]
          rw [← sl_base_val p Mm L sz]
          simp
        · exact hw.elim
      · exact hw.elim
    · rename_i p
      obtain ⟨m1, o1, hw⟩ := ints hw
      obtain ⟨m2, o2, hw⟩ := ints hw
      obtain ⟨m3, o3, hw⟩ := ints hw
      split at hw
      · rename_i len e hu
        split at hw
        · rename_i sz hs
          obtain ⟨L, Hh, Mm, hrun, hw⟩ := run_slice3 false o1 o2 o3 hw
          refine ⟨_, fun w => ?_, hw⟩
          simp [execOp, ho, he, AV.val, Cell.val, Instr.sliceAt, run_underlying hu, hrun, run_sizeOf hs, Instr.sureAddr]
          rw [← sl_base_val (some p) Mm L sz]
          split <;> rfl
        · exact hw.elim
      · exact hw.elim
    · exact hw.elim
  · -- extract
    rename_i x i ho
    obtain ⟨v, hv, hw⟩ := ev_wp hw
    have he := hr.eval hv
    split at hw
    · rename_i vs
      split at hw
      · rename_i cs hc
        refine ⟨_, fun w => ?_, hw⟩
        simp [execOp, ho, he, AV.val, Instr.extract, hc, compVal]
      · rename_i c hc
        refine ⟨_, fun w => ?_, hw⟩
        simp [execOp, ho, he, AV.val, Instr.extract, hc, compVal]
      · exact hw.elim
    · exact hw.elim
  · -- build
    rename_i t parts ho
    obtain ⟨vs, hvs, hw⟩ := evParts_wp hr hw
    split at hw
    · rename_i fs z hu hz
      split at hw
      · rename_i places hpl
        split at hw
        · rename_i cells hc
          refine ⟨_, fun w => ?_, hw⟩
          have hp : (parts.map (fun x => (x.1, a.eval x.2))).toList = vs.map (fun x => (x.1, x.2.val)) := by rw [← hvs]; simp
          have := build_sound hu hz hpl hc hp w
          simp only [execOp, ho, Sem.run_bind]
          rw [this]
          rfl
        · exact hw.elim
      · exact hw.elim
    · exact hw.elim
  · -- len, cap
    rename_i c ho
    split at hw
    · rename_i b hb
      obtain ⟨callee, args, ats⟩ := c
      simp only at hb; subst hb
      obtain ⟨v, hy, hw⟩ := builtin_sound hr hw
      refine ⟨v, fun w => ?_, hw⟩
      have := hy o.type w
      simp [execOp, ho, resolve, invoke]
      exact this _
    · exact hw.elim
  · exact hw.elim
end
end Go.Proofs.Ytegnpimlfphncaa
namespace Go.Proofs.Ytegnpimlfphncaa
open Go
theorem cell_rd (w : World) (p : PA) : w.cell? p.val = rd w.heap p := by
  unfold World.cell? rd PA.val
  split <;> simp_all
theorem frozen_fz {w : World} {p : PA} (hf : fz w.heap p = false) : w.frozen? p.val = false := by
  unfold fz at hf
  unfold World.frozen? PA.val
  dsimp only
  split at hf
  · rename_i hb
    rw [hb]
    simp only [Bool.or_eq_false_iff] at hf
    exact hf.2
  · rename_i hb
    split
    · rename_i h1; exact absurd h1 (hb _ _ _ _)
    · rfl
theorem setCell_wr (w : World) (p : PA) (v : Value) : w.setCell p.val v = { w with heap := wr w.heap p v } := rfl
theorem cell_add (w : World) (p : PA) (j : Nat) : w.cell? (p.val.add j) = rd w.heap (p.1, p.2 + j) := by rw [add_val, cell_rd]
section
variable {P : Program} {n : Nat} {r : Regs} {a : Act} {Q : Ex → List AV → H → Prop} {h : H} {o : Oper}
theorem shT_agg {t : TypeId} {ss : List Sh1} (hs : shT P t = some (.agg ss)) : aggT P t = some true := by
  unfold shT at hs
  split at hs
  · assumption
  · simp at hs
  · simp at hs
theorem shT_c {t : TypeId} {s : Sh1} (hs : shT P t = some (.c s)) : aggT P t = some false := by
  unfold shT at hs
  split at hs
  · simp at hs
  · assumption
  · simp at hs
theorem loads_wp : ∀ (ss : List Sh1) (p : PA) (k : List Cell → M), wp P (loads p ss k) Q h → ∃ cs, cs.length = ss.length ∧ rds h p (cs.map Cell.val) ∧ wp P (k cs) Q h
  | [], p, k, hw => ⟨[], rfl, fun j v hj => by simp at hj, hw⟩
  | s :: ss, p, k, hw => by
    obtain ⟨x, hx, hw⟩ := hw
    obtain ⟨cs, hl, hc, hw⟩ := loads_wp ss (p.1, p.2 + 1) _ hw
    refine ⟨s.mk x :: cs, by simp [hl], fun j v hj => ?_, hw⟩
    cases j with
    | zero => simp at hj; subst hj; exact hx
    | succ j =>
      have := hc j v (by simpa using hj)
      simp only [Nat.add_assoc, Nat.add_comm 1] at this
      exact this
theorem there_run {s t : TypeId} {x : Operand} {f : Nat} {fs : Array Field} {fld : Field} {p : PA} {w : World} (ho : o.op = .fieldAddr s x f) (hx : a.eval x = .pointer (some p.val))
    (h1 : P.underlying s = some (.struct fs)) (h2 : fs[f]? = some fld) (ht : fld.type = t) (hoff : fld.offset = 0) (hby : fld.byteOffset = 0) (hs : sizeT P t = some 0)
    (hg : ∀ t, gd t = true → goodT P t = true) (hp : okp w.heap p) : (execOp a.eval o).run P w = .ok (.value (.pointer (some p.val))) w := by
  obtain ⟨c, e, fz', hb, he⟩ := hp
  have hgt := hg e he
  have hsh : w.shape? p.1 = some (e, c.size) := by
    unfold World.shape?
    rw [hb]
  obtain ⟨b, hbyte⟩ : ∃ b, ∀ w' : World, w' = w → (byteOf p.val).run P w' = .ok b w' := by
    by_cases h0 : P.cellsOf e = 0
    · exact ⟨0, fun w' hw' => by subst hw'; simp [byteOf, noView, viewAt, PA.val, hsh, h0]⟩
    · have hlt : p.2 % P.cellsOf e < P.cellsOf e := Nat.mod_lt _ (by omega)
      unfold goodT at hgt
      rw [List.all_eq_true] at hgt
      obtain ⟨b, hb2⟩ := Option.isSome_iff_exists.1 (hgt _ (List.mem_range.2 hlt))
      exact ⟨p.2 / P.cellsOf e * P.bytesOf e + b, fun w' hw' => by subst hw'; simp [byteOf, noView, viewAt, PA.val, hsh, h0, hb2]⟩
  have hbw := hbyte w rfl
  have hpl : (byteOf ({ block := p.val.block, off := p.val.off } : Addr)).run P w = .ok b w := hbw
  subst ht
  simp [execOp, ho, hx, Instr.fieldAt, run_underlying h1, h2, Instr.sureAddr, fieldPlace, run_sizeOf hs, partAt, hbw, hoff, hby, hpl]
  rfl
theorem load_sound {t : TypeId} {x : Operand} {k : PA → AV → M} (ho : o.op = .load t x) (hr : Rel n r a) (hw : wp P (loadOp P t x r k) Q h) :
    ∃ p v, rds h p ((cellsAV v).map Cell.val) ∧ (∀ w, rds w.heap p ((cellsAV v).map Cell.val) → (execOp a.eval o).run P w = .ok (.value v.val) w) ∧ wp P (k p v) Q h := by
  obtain ⟨va, hv, hw⟩ := ev_wp hw
  have he := hr.eval hv
  split at hw
  · rename_i p
    split at hw
    · rename_i s hs
      obtain ⟨u, hu, hw⟩ := hw
      refine ⟨p, .c (s.mk u), fun j v hj => ?_, fun w hh => ?_, hw⟩
      · cases j with
        | zero => simp [cellsAV] at hj; subst hj; exact hu
        | succ j => simp [cellsAV] at hj
      · have h0 := hh 0 (s.mk u).val rfl
        simp only [Nat.add_zero] at h0
        simp [execOp, ho, he, AV.val, Cell.val, Instr.loadAt, Instr.sureAddr, loadVar, aggT_some (shT_c hs), cell_rd, h0]
    · rename_i ss hs
      split at hw
      · rename_i m hm
        split at hw
        · rename_i hb
          obtain rfl := Nat.eq_of_beq_eq_true hb
          obtain ⟨cs, hl, hc, hw⟩ := loads_wp _ _ _ hw
          refine ⟨p, .agg cs, hc, fun w hh => ?_, hw⟩
          have hrun := run_loadCells_list (P := P) w p.val (cs.map Cell.val) (fun j v hj => by rw [cell_add]; exact hh j v hj)
          rw [List.length_map, hl] at hrun
          simp [execOp, ho, he, AV.val, Cell.val, Instr.loadAt, Instr.sureAddr, loadVar, aggT_some (shT_agg hs), run_sizeOf hm, hrun]
        · exact hw.elim
      · exact hw.elim
    · exact hw.elim
  · exact hw.elim
theorem stores_wp : ∀ (cs : List Cell) (p : PA) (k : M) (w : World) (i : Nat), wp P (stores (p.1, p.2 + i) cs k) Q w.heap →
    ∃ h', (storeCells p.val (cs.map Cell.val) i).run P w = .ok () { w with heap := h' } ∧ wp P k Q h'
  | [], p, k, w, i, hw => ⟨w.heap, rfl, hw⟩
  | c :: cs, p, k, w, i, hw => by
    obtain ⟨⟨h1, h2⟩, hw⟩ := hw
    obtain ⟨u, hu⟩ := Option.isSome_iff_exists.1 h1
    have hst : (store (p.val.add i) c.val).run P w = .ok () { w with heap := wr w.heap (p.1, p.2 + i) c.val } := by
      rw [run_store P w _ _ _ c.one, cell_add, hu, add_val]
      simp only [frozen_fz h2, setCell_wr]
      rfl
    obtain ⟨h', hr, hw⟩ := stores_wp cs p k { w with heap := wr w.heap (p.1, p.2 + i) c.val } (i + 1) hw
    refine ⟨h', ?_, hw⟩
    simp only [List.map_cons, storeCells, Sem.run_bind, hst, Result.andThen_ok, hr]
theorem run_storeCells_wrs : ∀ (vs : List Value) (p : PA) (w : World) (i : Nat), oks w.heap (p.1, p.2 + i) vs.length → (∀ v ∈ vs, v.oneCell' = true) →
    (storeCells p.val vs i).run P w = .ok () { w with heap := wrs w.heap (p.1, p.2 + i) vs }
  | [], _, _, _, _, _ => rfl
  | v :: vs, p, w, i, hk, h1 => by
    obtain ⟨hc, hf⟩ := hk 0 (by simp)
    simp only [Nat.add_zero] at hc hf
    obtain ⟨u, hu⟩ := Option.isSome_iff_exists.1 hc
    have hst : (store (p.val.add i) v).run P w = .ok () { w with heap := wr w.heap (p.1, p.2 + i) v } := by
      rw [run_store P w _ _ _ (h1 v (by simp)), cell_add, hu, add_val]
      simp only [frozen_fz hf, setCell_wr]
      rfl
    have ih := run_storeCells_wrs vs p { w with heap := wr w.heap (p.1, p.2 + i) v } (i + 1) (fun j hj => by
      obtain ⟨hc', hf'⟩ := hk (j + 1) (by simp; omega)
      simp only [show p.2 + i + (j + 1) = p.2 + (i + 1) + j by omega] at hc' hf'
      refine ⟨?_, ?_⟩
      · have hq : (rd (wr w.heap (p.1, p.2 + i) v) (p.1, p.2 + (i + 1) + j)).isSome = (rd w.heap (p.1, p.2 + (i + 1) + j)).isSome := by
          simp only [rd, wr, Array.getElem?_modify, if_true]
          cases hb : w.heap[p.1]? with
          | none => rfl
          | some ob => cases ob <;> simp; rw [Array.getElem?_setIfInBounds_ne (by omega)]
        rw [hq]; exact hc'
      · have hq : fz (wr w.heap (p.1, p.2 + i) v) (p.1, p.2 + (i + 1) + j) = fz w.heap (p.1, p.2 + (i + 1) + j) := by
          simp only [fz, wr, Array.getElem?_modify, if_true]
          cases hb : w.heap[p.1]? with
          | none => rfl
          | some ob => cases ob <;> simp
        rw [hq]; exact hf') (fun x hx => h1 x (by simp [hx]))
    simp only [storeCells, Sem.run_bind, hst, Result.andThen_ok, ih]
    rfl
theorem zero_run {t : TypeId} {cs : List Cell} (hz : zeroT P t = some cs) (w : World) : ∃ z, (zeroValue t).run P w = .ok z w ∧ z.cells = (cs.map Cell.val).toArray := by
  obtain ⟨i, z, hi, hz0, hc⟩ := zero_of_zeroT hz
  exact ⟨z, by simp [zeroValue, typeInfo, hi, hz0], hc⟩
def After (P : Program) (o : Oper) (a : Act) (Q : Ex → List AV → H → Prop) (w : World) (k : Option AV → M) (K : Act → World → Prop) : Prop :=
  ∀ (v : Option AV) (w' : World), Ext w w' → wp P (k v) Q w'.heap → K (a.put o.dst ((v.map AV.val).getD undef)) w'
theorem Oper.wp_value {K : Act → World → Prop} {Qc : Exit → Act → World → Prop} {w w' : World} {v : Value} (hrun : (execOp a.eval o).run P w = .ok (.value v) w')
    (hk : K (a.put o.dst v) w') : o.wp P a w K Qc := by
  unfold Oper.wp; rw [hrun]; exact hk
theorem Oper.wp_skip {K : Act → World → Prop} {Qc : Exit → Act → World → Prop} {w w' : World} (hrun : (execOp a.eval o).run P w = .ok .skip w')
    (hk : K (a.put o.dst undef) w') : o.wp P a w K Qc := by
  unfold Oper.wp; rw [hrun]; exact hk
theorem resAV_val {tup : Bool} {ss : List Sh} {x : SV ss} {v : AV} (hv : resAV tup ss x = some v) : retVal tup ss x = v.val := by
  unfold resAV at hv
  split at hv
  · simp at hv; subst hv; rfl
  · simp at hv; subst hv; rfl
  · cases hv
theorem calls_sound {K : Act → World → Prop} {Qc : Exit → Act → World → Prop} {w : World} {f : FuncId} {args : Array Value} {tup : Bool} {ss : List Sh} {k : Option AV → M}
    (hrun : (execOp a.eval o).run P w = .ok (.enter f args) w) (hK : After P o a Q w k K)
    (hw : HC P f args w.heap fun v h' => ∃ x : SV ss, v = retVal tup ss x ∧ wp P (match resAV tup ss x with | some v => k (some v) | none => .fail) Q h') : o.wp P a w K Qc := by
  unfold Oper.wp
  rw [hrun, Oper.upon_enter]
  refine (hw w rfl).mono ?_
  rintro e w' ⟨v, rfl, hx, x, rfl, hx2⟩
  split at hx2
  · rename_i v hv
    have := hK (some v) w' hx hx2
    rw [resAV_val hv]
    exact this
  · exact hx2.elim
theorem callFunc_run {f : FuncId} {args : Array Value} {w : World} (hf : (P.funcs[f]?).map (fun fn => fn.body.isSome && fn.name != "runtime.NumGoroutine") = some true) :
    (callFunc f args).run P w = .ok (.enter f args) w := by
  simp only [Option.map_eq_some_iff, Bool.and_eq_true, bne_iff_ne, ne_eq] at hf
  obtain ⟨fn, h1, h2, h3⟩ := hf
  have h4 : (fn.name == "runtime.NumGoroutine") = false := by simpa using h3
  have h5 : fn.body.isNone = false := by cases hb : fn.body <;> simp_all
  simp only [callFunc, Sem.run_bind, run_program, Result.andThen_ok, h1, h4, h5, Bool.false_eq_true, if_false, Sem.run_pure]
theorem slOf_val {v : AV} {d : SlT} (hv : slOf v = some d) : v.val = .slice (d.1.map PA.val) d.2.1 d.2.2 := by
  unfold slOf at hv
  split at hv
  · simp at hv; subst hv; rfl
  · cases hv
theorem firstCells_run {sz m cap : Nat} {s : Option PA} {len : Nat} {vs : List Value} {w : World} (hl : vs.length = m * sz) (hv : m * sz = 0 ∨ ∃ q, s = some q ∧ rds w.heap q vs) :
    (Builtin.firstCells sz m (.slice (s.map PA.val) len cap)).run P w = .ok vs.toArray w := by
  rcases hv with h0 | ⟨q, rfl, hq⟩
  · obtain rfl : vs = [] := List.eq_nil_of_length_eq_zero (by omega)
    cases s with
    | none => exact run_firstCells_none _ _ _ _ _
    | some q => exact run_firstCells_some (P := P) w sz m q.val len cap [] (by simpa using h0.symm) (by simp)
  · exact run_firstCells_some (P := P) w sz m q.val len cap vs hl (fun j v hj => by rw [cell_add]; exact hq j v hj)
theorem elem_run {t e : TypeId} (h1 : elemT P t = some e) (w : World) : (underlying t).run P w = .ok (.slice e) w := run_underlying (under_of_elemT h1) w
theorem append_run {t u ty e f : TypeId} {sz byt : Nat} {z : List Cell} {d s : SlT} {w : World} {k : SlT → M} (hgd : gd e = true)
    (ht : elemT P t = some e) (hu : elemT P u = some f) (hs : sizeT P e = some sz) (hz : zeroT P e = some z) (hb : bytesT P e = some byt)
    (hw : wp P (.append e sz byt z d s k) Q w.heap) :
    ∃ r w', (Builtin.append_ #[t, u] ty #[.slice (d.1.map PA.val) d.2.1 d.2.2, .slice (s.1.map PA.val) s.2.1 s.2.2]).run P w = .ok (.slice (r.1.map PA.val) r.2.1 r.2.2) w' ∧ Ext w w' ∧ wp P (k r) Q w'.heap := by
  obtain ⟨news, hl, hn, h1, hw⟩ := hw
  obtain ⟨i, hi, hsz⟩ := size_of_sizeT hs
  obtain ⟨zv, hzr, hzc⟩ := zero_run (P := P) hz w.drew
  have hby : i.bytes = byt := by
    have := hb
    simp only [bytesT, hi, Option.map_some, Option.some.injEq] at this
    exact this
  have hfw := firstCells_run (P := P) (w := w) (len := s.2.1) (cap := s.2.2) hl hn
  have hfd := firstCells_run (P := P) (w := w.drew) (len := s.2.1) (cap := s.2.2) hl hn
  obtain ⟨dp, dl, dc⟩ := d
  obtain ⟨sp, sl, sc⟩ := s
  dsimp only at *
  split at hw
  · rename_i hroom
    rcases hw with ⟨h0, hw⟩ | ⟨p, rfl, hk, hw⟩
    · refine ⟨(dp, dl + sl, dc), w, ?_, Ext.refl w, hw⟩
      obtain rfl : news = [] := List.eq_nil_of_length_eq_zero (by omega)
      cases dp <;> simp [Builtin.append_, elem_run ht, elem_run hu, run_sizeOf hs, Builtin.lenOf, hroom, hfw, storeCells]
    · refine ⟨(some p, dl + sl, dc), { w with heap := wrs w.heap (p.1, p.2 + dl * sz) news }, ?_, ⟨rfl, rfl, rfl⟩, hw⟩
      have hst := run_storeCells_wrs (P := P) news (p.1, p.2 + dl * sz) w 0 (by rw [hl]; exact hk) h1
      simp only [Nat.add_zero] at hst
      have hst2 : (storeCells (p.val.add (dl * sz)) news).run P w = .ok () { w with heap := wrs w.heap (p.1, p.2 + dl * sz) news } := by rw [add_val]; exact hst
      simp [Builtin.append_, elem_run ht, elem_run hu, run_sizeOf hs, Builtin.lenOf, hroom, hfw, hst2]
  · rename_i hroom
    obtain ⟨olds, hol, ho, hg, hw⟩ := hw
    have hfo := firstCells_run (P := P) (w := w.drew) (len := dl) (cap := dc) hol ho
    have hfit := growslice_fits (old := dc) (need := dl + sl) (by omega) hg.1
    have hge := grownCap_ge w (dl + sl) dc e
    have hcm := grownCap_le_maxLen w (dl + sl) dc e (by have := hg.2; simp only [maxLen]; omega)
    have hw' := hw (grownCap w (dl + sl) dc e) hge (by simp only [maxLen] at hcm; omega) hgd
    refine ⟨(some (w.heap.size, 0), dl + sl, grownCap w (dl + sl) dc e), w.drew.alloc (.cells (olds ++ news ++ zeros z (grownCap w (dl + sl) dc e - (dl + sl))).toArray e (0, 0)), ?_, ⟨rfl, rfl, rfl⟩, hw'⟩
    have h63 : ¬ (9223372036854775807 < ((dl : Int) + (sl : Int))) := by have := hg.2; omega
    have h48 : ¬ (281474976710656 < Builtin.nextslicecap (dl + sl) dc * i.bytes) := by rw [hby]; omega
    clear hgd hw' hw
    simp [Builtin.append_, elem_run ht, elem_run hu, run_sizeOf hs, typeInfo, hi, Builtin.lenOf, hroom, h63, h48, Question.forced, hfd, hfo, newRow, grownCap, hzr, hzc]
    refine ⟨rfl, ?_⟩
    congr 2
    apply Array.ext'
    simp [zeros]
theorem appendZ_run {t u ty e : TypeId} {sz byt : Nat} {z : List Cell} {d : SlT} {n : Int} {k1 k2 : IntKind} {w : World} {k : SlT → M} (hgd : gd e = true)
    (ht : elemT P t = some e) (hu : P.underlying u = some (.int k2)) (hs : sizeT P e = some sz) (hz : zeroT P e = some z) (hb : bytesT P e = some byt)
    (hw : wp P (.appendZ e sz byt z d n k) Q w.heap) :
    ∃ r w', (Builtin.append_ #[t, u] ty #[.slice (d.1.map PA.val) d.2.1 d.2.2, .int k1 n]).run P w = .ok (.slice (r.1.map PA.val) r.2.1 r.2.2) w' ∧ Ext w w' ∧ wp P (k r) Q w'.heap := by
  obtain ⟨hn0, hn1, hnb, hns, hroom, olds, hol, ho, hg, hw⟩ := hw
  obtain ⟨i, hi, hsz⟩ := size_of_sizeT hs
  obtain ⟨zv, hzr, hzc⟩ := zero_run (P := P) hz w.drew
  have hby : i.bytes = byt := by
    have := hb
    simp only [bytesT, hi, Option.map_some, Option.some.injEq] at this
    exact this
  obtain ⟨dp, dl, dc⟩ := d
  dsimp only at *
  have hroom2 : ¬ dl + n.toNat ≤ dc := by omega
  have hwr : IntKind.i64.wrap n = n := by rw [IntKind.wrap_i64]; omega
  have hfo := firstCells_run (P := P) (w := w.drew) (len := dl) (cap := dc) hol ho
  have hfit := growslice_fits (old := dc) (need := dl + n.toNat) (by omega) hg.1
  have hge := grownCap_ge w (dl + n.toNat) dc e
  have hcm := grownCap_le_maxLen w (dl + n.toNat) dc e (by have := hg.2; simp only [maxLen]; omega)
  have hw' := hw (grownCap w (dl + n.toNat) dc e) hge (by simp only [maxLen] at hcm; omega) hgd
  refine ⟨(some (w.heap.size, 0), dl + n.toNat, grownCap w (dl + n.toNat) dc e), w.drew.alloc (.cells (olds ++ zeros z n.toNat ++ zeros z (grownCap w (dl + n.toNat) dc e - (dl + n.toNat))).toArray e (0, 0)), ?_, ⟨rfl, rfl, rfl⟩, hw'⟩
  have h63 : ¬ (9223372036854775807 < ((dl : Int) + (n.toNat : Int))) := by have := hg.2; omega
  have h63' : ¬ (9223372036854775807 < ((dl : Int) + max n 0)) := by have := hg.2; omega
  have h48 : ¬ (281474976710656 < Builtin.nextslicecap (dl + n.toNat) dc * i.bytes) := by rw [hby]; omega
  have hneg : ¬ n < 0 := by omega
  have hb48 : ¬ (281474976710656 < n * (i.bytes : Int)) := by rw [hby]; omega
  clear hgd hw' hw
  simp [Builtin.append_, elem_run ht, run_underlying hu, run_sizeOf hs, typeInfo, hi, asInt, asIntOf, hwr, hneg, hb48, hroom2, h63', h48, hns, Question.forced, hfo, newRow, grownCap, hzr, hzc]
  refine ⟨rfl, ?_⟩
  congr 2
  apply Array.ext'
  simp [zeros]
theorem copy_run {t u ty e f : TypeId} {sz : Nat} {d s : SlT} {w : World} {k : Nat → M}
    (ht : elemT P t = some e) (_hu : elemT P u = some f) (hs : sizeT P e = some sz) (hw : wp P (.copy sz d s k) Q w.heap) :
    ∃ w', (Builtin.copy_ #[t, u] ty #[.slice (d.1.map PA.val) d.2.1 d.2.2, .slice (s.1.map PA.val) s.2.1 s.2.2]).run P w = .ok (goInt (Nat.min s.2.1 d.2.1)) w' ∧ Ext w w' ∧
      wp P (k (Nat.min s.2.1 d.2.1)) Q w'.heap := by
  obtain ⟨vs, hl, hv, hw⟩ := hw
  obtain ⟨dp, dl, dc⟩ := d
  obtain ⟨sp, sl, sc⟩ := s
  dsimp only at *
  have hf : (Builtin.firstCells sz (Nat.min sl dl) (.slice (sp.map PA.val) sl sc)).run P w = .ok vs.toArray w := by
    refine firstCells_run (P := P) (w := w) hl ?_
    rcases hv with rfl | ⟨p, q, rfl, rfl, hq, hk, h1⟩
    · exact .inl (by simpa using hl.symm)
    · exact .inr ⟨q, rfl, hq⟩
  rcases hv with rfl | ⟨p, q, rfl, rfl, hq, hk, h1⟩
  · refine ⟨w, ?_, Ext.refl w, ?_⟩
    · cases dp <;> simp [Builtin.copy_, elem_run ht, run_sizeOf hs, Builtin.lenOf, hf, storeCells]
    · cases dp <;> exact hw
  · have hst := run_storeCells_wrs (P := P) vs p w 0 hk h1
    simp only [Nat.add_zero] at hst
    refine ⟨{ w with heap := wrs w.heap p vs }, ?_, ⟨rfl, rfl, rfl⟩, hw⟩
    have hf' : (Builtin.firstCells sz (min sl dl) (.slice (some q.val) sl sc)).run P w = .ok vs.toArray w := hf
    simp [Builtin.copy_, elem_run ht, run_sizeOf hs, Builtin.lenOf, hf', hst]
theorem make_run {t e : TypeId} {sz byt : Nat} {z : List Cell} {k1 k2 : IntKind} {l c : Int} {w : World} {k : SlT → M} (hgd : gd e = true)
    (ht : elemT P t = some e) (hs : sizeT P e = some sz) (hz : zeroT P e = some z) (hb : bytesT P e = some byt) (hw : wp P (.make e sz byt z l c k) Q w.heap) :
    ∃ r w', (Instr.makeSlice t (.int k1 l) (.int k2 c)).run P w = .ok (.slice (r.1.map PA.val) r.2.1 r.2.2) w' ∧ Ext w w' ∧ wp P (k r) Q w'.heap := by
  obtain ⟨h0, hlc, hbytes, h63, hw⟩ := hw
  obtain ⟨i, hi, hsz⟩ := size_of_sizeT hs
  obtain ⟨i', zv, hi', hzv, hzc⟩ := zero_of_zeroT hz
  obtain rfl : i = i' := by rw [hi] at hi'; exact Option.some.inj hi'
  have hby : i.bytes = byt := by
    have := hb
    simp only [bytesT, hi, Option.map_some, Option.some.injEq] at this
    exact this
  have := run_make (P := P) w t e i zv (under_of_elemT ht) hi hzv k1 k2 l c h0 hlc (by rw [hby]; exact hbytes) h63
  refine ⟨(some (w.heap.size, 0), l.toNat, c.toNat), _, this, ⟨rfl, rfl, rfl⟩, ?_⟩
  rw [hsz, hzc]
  exact hw hgd
theorem buildSlice_run {t e : TypeId} {sz len : Nat} {z cells : List Cell} {parts : Array (Nat × Value)} {vs : List (Nat × AV)} {w : World}
    (ht : elemT P t = some e) (hs : sizeT P e = some sz) (hz : zeroT P e = some z) (hd : len * sz ≤ 16777216 ∧ z.length = sz ∧ 0 < sz)
    (hc : fillC (fun i => some (i * sz, sz)) (rowOf z (len * sz)) vs = some cells) (hp : parts.toList = vs.map fun x => (x.1, x.2.val)) :
    (Instr.buildSlice t len parts).run P w = .ok (.slice (some ⟨w.heap.size, 0, none⟩) len len) { w with heap := newCells w.heap e (cells.map Cell.val) } := by
  obtain ⟨zv, hzr, hzc⟩ := zero_run (P := P) hz w
  have hf := fill_val hc
  have hn : ¬ 16777216 < len * sz := by omega
  have e1 : (Array.range (len * sz)).map (fun i => ((z.map Cell.val).toArray)[i % ((z.map Cell.val).toArray).size]!) = ((rowOf z (len * sz)).map Cell.val).toArray := by
    apply Array.ext'
    simp only [Array.toList_map, Array.toList_range, rowOf, List.map_map, List.size_toArray, List.length_map]
    apply List.map_congr_left
    intro i _
    have hlt : i % z.length < z.length := Nat.mod_lt _ (by omega)
    simp [hlt]
  by_cases hz0 : len * sz = 0
  · have e2 : rowOf z (len * sz) = [] := by rw [hz0]; rfl
    rw [e2] at hf
    simp only [Instr.buildSlice, elem_run ht, run_sizeOf hs, Sem.run_bind, Result.andThen_ok, hz0, newRow, hp, if_true]
    simp [Array.range_zero'] at hf ⊢
    rw [hf]
    rfl
  · simp only [Instr.buildSlice, elem_run ht, run_sizeOf hs, Sem.run_bind, Result.andThen_ok, hz0, newRow, hp, if_false]
    rw [if_neg (by simpa using hd.1)]
    simp only [Sem.run_bind, hzr, Result.andThen_ok, Sem.run_pure, hzc]
    rw [e1, hf]
    rfl
theorem call_sound {K : Act → World → Prop} {Qc : Exit → Act → World → Prop} {w : World} {k : Option AV → M} {c : Call} (ho : o.op = .call c) (hr : Rel n r a)
    (hK : After P o a Q w k K) (hw : wp P (callOp P c.callee c.args.toList c.argTypes.toList o.type r k) Q w.heap) : o.wp P a w K Qc := by
  obtain ⟨callee, ⟨args⟩, ⟨ts⟩⟩ := c
  unfold callOp at hw
  dsimp only at hw
  split at hw
  · -- append
    rename_i x y t u
    obtain ⟨vd, hvd, hw⟩ := ev_wp hw
    obtain ⟨vs, hvs, hw⟩ := ev_wp hw
    split at hw
    · rename_i d s e f hd hs he hf
      split at hw
      · rename_i sz z byt h1 h2 h3 h4
        obtain ⟨res, w', hrun, hx, hw'⟩ := append_run (ty := o.type) h4 he hf h1 h2 h3 hw
        refine Oper.wp_value (v := .slice (res.1.map PA.val) res.2.1 res.2.2) (w' := w') ?_ (hK (some (.c (.sl res.1 res.2.1 res.2.2))) w' hx hw')
        simp only [execOp, ho, resolve, invoke, builtin, List.map_toArray, List.map_cons, List.map_nil, hr.eval hvd, hr.eval hvs, slOf_val hd, slOf_val hs, Sem.run_bind, Sem.run_pure, Result.andThen_ok, hrun]
      · exact hw.elim
    · rename_i d e hd hs he hf
      split at hw
      · rename_i kk n k2 hu
        split at hw
        · rename_i sz z byt h1 h2 h3 h4
          obtain ⟨res, w', hrun, hx, hw'⟩ := appendZ_run (k1 := kk) (ty := o.type) h4 he hu h1 h2 h3 hw
          refine Oper.wp_value (v := .slice (res.1.map PA.val) res.2.1 res.2.2) (w' := w') ?_ (hK (some (.c (.sl res.1 res.2.1 res.2.2))) w' hx hw')
          have hvn := hr.eval hvs
          simp only [AV.val, Cell.val] at hvn
          simp only [execOp, ho, resolve, invoke, builtin, List.map_toArray, List.map_cons, List.map_nil, hr.eval hvd, hvn, slOf_val hd, Sem.run_bind, Sem.run_pure, Result.andThen_ok, hrun]
        · exact hw.elim
      · exact hw.elim
    · exact hw.elim
  · -- copy
    rename_i x y t u
    obtain ⟨vd, hvd, hw⟩ := ev_wp hw
    obtain ⟨vs, hvs, hw⟩ := ev_wp hw
    split at hw
    · rename_i d s e f hd hs he hf
      split at hw
      · rename_i sz h1
        obtain ⟨w', hrun, hx, hw'⟩ := copy_run (ty := o.type) he hf h1 hw
        refine Oper.wp_value (v := goInt (Nat.min s.2.1 d.2.1)) (w' := w') ?_ (hK (some (.c (.int .i64 (Nat.min s.2.1 d.2.1 : Nat)))) w' hx hw')
        simp only [execOp, ho, resolve, invoke, builtin, List.map_toArray, List.map_cons, List.map_nil, hr.eval hvd, hr.eval hvs, slOf_val hd, slOf_val hs, Sem.run_bind, Sem.run_pure, Result.andThen_ok, hrun]
      · exact hw.elim
    · exact hw.elim
  · -- a function of the program's
    rename_i f
    obtain ⟨vs, hvs, hw⟩ := evs_wp hr hw
    split at hw
    · rename_i tup ss hf hs
      refine calls_sound (k := k) (f := f) (args := (vs.map AV.val).toArray) ?_ hK hw
      simp only [execOp, ho, resolve, Act.eval, Deferred.ofValue, invoke, Sem.run_bind, Sem.run_pure, Result.andThen_ok, List.map_toArray]
      have e : args.map a.eval = vs.map AV.val := hvs
      rw [e]
      simpa using callFunc_run hf
    · exact hw.elim
  · -- a function value
    rename_i t
    obtain ⟨v, hv, hw⟩ := ev_wp hw
    split at hw
    · rename_i u
      obtain ⟨vs, hvs, hw⟩ := evs_wp hr hw
      split at hw
      · rename_i tup ss hs
        have he := hr.eval hv
        simp only [wp, callOf] at hw
        split at hw
        · rename_i f first cap _
          refine calls_sound (k := k) (f := f) (args := first ++ (vs.map AV.val).toArray ++ cap) ?_ hK hw.2
          have e : args.map a.eval = vs.map AV.val := hvs
          simp only [execOp, ho, resolve, he, AV.val, Cell.val, Deferred.ofValue, invoke, Sem.run_bind, Sem.run_pure, Result.andThen_ok, List.map_toArray, e]
          simpa using callFunc_run hw.1
        · exact hw.elim
      · exact hw.elim
    · exact hw.elim
  · exact hw.elim
theorem eff_sound {K : Act → World → Prop} {Qc : Exit → Act → World → Prop} {w : World} {k : Option AV → M} (hr : Rel n r a)
    (hK : After P o a Q w k K) (hw : wp P (effOp P o r k) Q w.heap) : o.wp P a w K Qc := by
  unfold effOp at hw
  split at hw
  · -- alloc
    rename_i e ho
    split at hw
    · rename_i cs hz hgd
      obtain ⟨z, hzr, hzc⟩ := zero_run hz w
      refine Oper.wp_value (v := .pointer (some ⟨w.heap.size, 0, none⟩)) (w' := { w with heap := newCells w.heap e (cs.map Cell.val) }) ?_ (hK (some (.c (.addr (w.heap.size, 0)))) { w with heap := newCells w.heap e (cs.map Cell.val) } ⟨rfl, rfl, rfl⟩ (hw hgd))
      simp only [execOp, ho, Instr.alloc, Sem.run_bind, hzr, Result.andThen_ok, newVar, hzc]
      rfl
    · exact hw.elim
  · -- box
    rename_i e x ho
    obtain ⟨v, hv, hw⟩ := ev_wp hw
    split at hw
    · rename_i ht hgd
      refine Oper.wp_value (v := .pointer (some ⟨w.heap.size, 0, none⟩)) (w' := { w with heap := newCells w.heap e ((cellsAV v).map Cell.val) }) ?_ (hK (some (.c (.addr (w.heap.size, 0)))) { w with heap := newCells w.heap e ((cellsAV v).map Cell.val) } ⟨rfl, rfl, rfl⟩ (hw hgd))
      simp only [execOp, ho, hr.eval hv, Instr.box, newVar, cells_val ht]
      rfl
    · exact hw.elim
  · -- buildSlice
    rename_i t len parts ho
    obtain ⟨vs, hvs, hw⟩ := evParts_wp hr hw
    split at hw
    · rename_i e he
      split at hw
      · rename_i sz z h1 h2
        split at hw
        · rename_i hd
          rw [Bool.and_eq_true] at hd
          obtain ⟨hd, hgd⟩ := hd
          have hd := of_decide_eq_true hd
          split at hw
          · rename_i cells hc
            have hp : (parts.map (fun x => (x.1, a.eval x.2))).toList = vs.map (fun x => (x.1, x.2.val)) := by rw [← hvs]; simp
            have hrun := buildSlice_run (w := w) he h1 h2 hd hc hp
            refine Oper.wp_value (v := .slice (some ⟨w.heap.size, 0, none⟩) len len) (w' := { w with heap := newCells w.heap e (cells.map Cell.val) }) ?_ (hK (some (.c (.sl (some (w.heap.size, 0)) len len))) { w with heap := newCells w.heap e (cells.map Cell.val) } ⟨rfl, rfl, rfl⟩ (hw hgd))
            simp only [execOp, ho, Sem.run_bind]
            rw [hrun]
            rfl
          · exact hw.elim
        · exact hw.elim
      · exact hw.elim
    · exact hw.elim
  · -- store
    rename_i t x y ho
    obtain ⟨v, hv, hw⟩ := ev_wp hw
    split at hw
    · rename_i p
      obtain ⟨u, hu, hw⟩ := ev_wp hw
      split at hw
      · rename_i m ht hm
        split at hw
        · rename_i hb
          have hb := Nat.eq_of_beq_eq_true hb
          obtain ⟨h', hrun, hw⟩ := stores_wp (cellsAV u) p (k none) w 0 hw
          refine Oper.wp_skip (w' := { w with heap := h' }) ?_ (hK none { w with heap := h' } ⟨rfl, rfl, rfl⟩ hw)
          have hc := cells_val ht
          have hsz : u.val.cells.size = m := by rw [hc]; simpa using hb
          have e1 : a.eval x = .pointer (some p.val) := hr.eval hv
          simp only [execOp, ho, e1, hr.eval hu, Instr.storeAt, Instr.sureAddr, storeVar, Sem.run_bind, Sem.run_pure, Result.andThen_ok, run_sizeOf hm]
          simp only [hc]
          simp [hrun]
          exact hb
        · exact hw.elim
      · exact hw.elim
    · exact hw.elim
  · -- makeSlice
    rename_i t l c ho
    obtain ⟨k1, m1, h1, hw⟩ := evInt_wp hr hw
    obtain ⟨k2, m2, h2, hw⟩ := evInt_wp hr hw
    split at hw
    · rename_i e he
      split at hw
      · rename_i sz z byt g1 g2 g3 g4
        obtain ⟨res, w', hrun, hx, hw'⟩ := make_run (k1 := k1) (k2 := k2) g4 he g1 g2 g3 hw
        refine Oper.wp_value (v := .slice (res.1.map PA.val) res.2.1 res.2.2) (w' := w') ?_ (hK (some (.c (.sl res.1 res.2.1 res.2.2))) w' hx hw')
        simp only [execOp, ho, h1, h2, Sem.run_bind, hrun, Result.andThen_ok, Sem.run_pure]
      · exact hw.elim
    · exact hw.elim
  · exact call_sound (by assumption) hr hK hw
  · exact hw.elim
end
end Go.Proofs.Ytegnpimlfphncaa
namespace Go.Proofs.Ytegnpimlfphncaa
open Go
inductive Kd where
  | pure | load | eff
def kindOf : Op → Kd
  | .load _ _ => .load
  | .alloc _ => .eff
  | .box _ _ => .eff
  | .buildSlice _ _ _ => .eff
  | .store _ _ _ => .eff
  | .makeSlice _ _ _ => .eff
  | .call c => match c.callee with
    | .builtin .len => .pure
    | .builtin .cap => .pure
    | .builtin .min => .pure
    | _ => .eff
  | _ => .pure
def putR (n : Nat) (r : Regs) (dst : Option Tmp) (v : Option AV) (k : Regs → M) : M :=
  match dst with
  | none => k r
  | some d => match Nat.ble (d + 1) n with
    | true => k (upd r d v)
    | false => .fail
def thereT (P : Program) : Op → Option Operand
  | .fieldAddr s x f => match P.underlying s with
    | some (.struct fs) => match fs[f]? with
      | some fld => match sizeT P fld.type, fld.offset, fld.byteOffset with
        | some 0, 0, 0 => some x
        | _, _, _ => none
      | none => none
    | _ => none
  | _ => none
def gotOf (p : PA) : List Cell → List (PA × List Cell)
  | [] => []
  | c :: cs => [(p, c :: cs)]
noncomputable def oneOp (P : Program) (n : Nat) (o : Oper) (r : Regs) (k : List (PA × List Cell) → Regs → M) : M :=
  match kindOf o.op with
  | .pure => match thereT P o.op with
    | none => pureOp P o r fun v => putR n r o.dst (some v) (k [])
    | some x => ev r x fun
      | .c (.addr p) => .there p (putR n r o.dst (some (.c (.addr p))) (k [(p, [])]))
      | _ => .fail
  | .load => match o.op with
    | .load t x => loadOp P t x r fun p v => putR n r o.dst (some v) (k (gotOf p (cellsAV v)))
    | _ => .fail
  | .eff => effOp P o r fun v => putR n r o.dst v (k [])
def guarded (ops : List Oper) (o : Oper) (r : Regs) (yes no : Regs → M) : M :=
  match o.guard with
  | none => yes r
  | some (j, want) =>
    match (ops[j]?).bind (·.dst) with
    | none => .fail
    | some d =>
      match r d with
      | some (.c .tt) => match want with | true => yes r | false => no r
      | some (.c .ff) => match want with | true => no r | false => yes r
      | some (.c (.bool b)) => .ite b (match want with | true => yes (upd r d (some (.c .tt))) | false => no (upd r d (some (.c .tt))))
          (match want with | true => no (upd r d (some (.c .ff))) | false => yes (upd r d (some (.c .ff))))
      | some (.tup _) => no r
      | _ => .fail
noncomputable def seqOps (P : Program) (n : Nat) (ops : List Oper) : List Oper → Regs → (Regs → M) → M
  | [], r, k => k r
  | o :: rest, r, k => guarded ops o r (fun r => oneOp P n o r fun _ r => seqOps P n ops rest r k) (fun r => putR n r o.dst (some (.tup [])) fun r => seqOps P n ops rest r k)
def bit (i : Nat) : Nat := Nat.pow 2 i
def has (m i : Nat) : Bool := Nat.testBit m i
def predsL : List Edge → Nat
  | [] => 0
  | e :: r => match Region.binds .any e with
    | true => Nat.lor (bit e.on) (predsL r)
    | false => predsL r
def preds (o : Oper) : Nat := predsL o.after.toList
def predsIn (m : Nat) : List Oper → Nat → Nat
  | [], _ => 0
  | o :: r, i => match has m i with
    | true => Nat.lor (preds o) (predsIn m r (i + 1))
    | false => predsIn m r (i + 1)
def closeM (ops : List Oper) : Nat → Nat → Nat
  | 0, m => m
  | f + 1, m => (fun m' => match Nat.beq m' m with
    | true => m
    | false => closeM ops f m') (Nat.lor m (predsIn m ops 0))
def waitsM (ops : List Oper) (o : Oper) : Nat := closeM ops ops.length (preds o)
def readyM (done : Nat) : List Oper → Nat → List Nat
  | [], _ => []
  | o :: r, i => match has done i, Nat.beq (Nat.land (preds o) done) (preds o) with
    | false, true => i :: readyM done r (i + 1)
    | _, _ => readyM done r (i + 1)
def isEff (o : Oper) : Bool := match kindOf o.op with | .eff => true | _ => false
def apartAll (ops : Array Oper) : Bool :=
  ops.toList.zipIdx.all fun (x, i) => ops.toList.zipIdx.all fun (y, j) => Nat.beq i j || has (preds x) j || has (preds y) i || (isEff x && isEff y) || x.apart ops y || has (waitsM ops.toList x) j || has (waitsM ops.toList y) i
def insideAll (ops : Array Oper) : Bool := ops.toList.all fun o => o.after.toList.all fun e => Nat.ble (e.on + 1) ops.size
def heldAll : List (PA × List Cell) → M → M
  | [], k => k
  | (p, []) :: r, k => .there p (heldAll r k)
  | (p, c :: cs) :: r, k => go p (c :: cs) (heldAll r k)
where go (p : PA) : List Cell → M → M
  | [], k => k
  | c :: cs, k => .held p c (go (p.1, p.2 + 1) cs k)
def allOf : List M → M
  | [] => .fail
  | [x] => x
  | x :: r => .both x (allOf r)
def pickFree (ops : List Oper) : List Nat → Option Nat
  | [] => none
  | i :: r => match ops[i]? with
    | some o => match isEff o with
      | false => some i
      | true => pickFree ops r
    | none => pickFree ops r
noncomputable def drawOps (P : Program) (n : Nat) (ops : List Oper) : Nat → Nat → List (Nat × PA × List Cell) → Regs → (Regs → M) → M
  | 0, _, _, _, _ => .fail
  | f + 1, done, held, r, k =>
    match readyM done ops 0 with
    | [] => k r
    | i :: more =>
      match pickFree ops (i :: more) with
      | some i =>
        match ops[i]? with
        | some o => guarded ops o r
            (fun r => oneOp P n o r fun got r => drawOps P n ops f (Nat.lor done (bit i)) (got.map (fun g => (i, g.1, g.2)) ++ held) r k)
            (fun r => putR n r o.dst (some (.tup [])) fun r => drawOps P n ops f (Nat.lor done (bit i)) held r k)
        | none => .fail
      | none =>
        allOf ((i :: more).map fun i => match ops[i]? with
        | some o => guarded ops o r
            (fun r => oneOp P n o r fun _ r =>
              let held' := held.filter fun x => !has (waitsM ops o) x.1
              heldAll (held'.map (·.2)) (drawOps P n ops f (Nat.lor done (bit i)) held' r k))
            (fun r => putR n r o.dst (some (.tup [])) fun r => drawOps P n ops f (Nat.lor done (bit i)) held r k)
        | none => .fail)
def branchy (ops : List Oper) : Nat → Nat → Bool
  | 0, _ => false
  | f + 1, done =>
    match readyM done ops 0 with
    | [] => false
    | i :: more =>
      match pickFree ops (i :: more) with
      | some i => branchy ops f (Nat.lor done (bit i))
      | none => match more with
        | [] => branchy ops f (Nat.lor done (bit i))
        | _ => true
def jointed (ops : Array Oper) (draw : Bool) : Bool := (ops.toList.any fun o => o.guard.isSome) || (draw && branchy ops.toList (ops.size + 1) 0)
def opReads (o : Oper) : List Nat := o.op.operands.toList.filterMap fun | .tmp t => some t | _ => none
def writesC : Code → List Nat
  | .region _ ops _ => ops.toList.filterMap (·.dst)
  | .seq a b => writesC a ++ writesC b
  | .cond _ a b => writesC a ++ writesC b
  | .block _ a => writesC a
  | .loop a => writesC a
  | .scope a => writesC a
  | _ => []
def usesExit (id : Nat) : Code → Bool
  | .seq a b => usesExit id a || usesExit id b
  | .cond _ a b => usesExit id a || usesExit id b
  | .block _ a => usesExit id a
  | .loop a => usesExit id a
  | .scope a => usesExit id a
  | .exit i => Nat.beq i id
  | _ => false
def fallsC : Code → Bool
  | .seq a b => fallsC a && fallsC b
  | .cond _ a b => fallsC a || fallsC b
  | .loop _ => false
  | .exit _ => false
  | .goto _ => false
  | .ret => false
  | .refuse _ => false
  | _ => true
def memN (x : Nat) : List Nat → Bool
  | [] => false
  | y :: r => match Nat.beq x y with | true => true | false => memN x r
def addN (acc : List Nat) : List Nat → List Nat
  | [] => acc
  | x :: r => match memN x acc with | true => addN acc r | false => addN (x :: acc) r
abbrev Joints := List (Nat × List Nat × List Nat)
def jointOf : Joints → Nat → Option (List Nat × List Nat)
  | [], _ => none
  | (i, x) :: r, j => match Nat.beq i j with | true => some x | false => jointOf r j
def dropJ (id : Nat) : Joints → Joints
  | [] => []
  | (i, x) :: r => match Nat.beq i id with | true => dropJ id r | false => (i, x) :: dropJ id r
def without (d : Nat) : List Nat → List Nat
  | [] => []
  | x :: r => match Nat.beq x d with | true => without d r | false => x :: without d r
def liveOps : List Oper → List Nat → List Nat
  | [], out => out
  | o :: r, out => addN (match o.dst with
      | some d => without d (liveOps r out)
      | none => liveOps r out) (opReads o)
def gj (l : Nat) : Nat := l + 1000
def labelOf : Code → Option Nat
  | .seq a b => match labelOf a with
    | some l => some l
    | none => labelOf b
  | .label l => some l
  | _ => none
def jumps (l : Nat) : Code → Bool
  | .seq a b => jumps l a || jumps l b
  | .cond _ a b => jumps l a || jumps l b
  | .block _ a => jumps l a
  | .loop a => jumps l a
  | .scope a => jumps l a
  | .goto i => Nat.beq i l
  | _ => false
def liveX (res : List Nat) : Code → Option Nat → Joints → List Nat → List Nat
  | .region _ ops _, _, _, out => liveOps ops.toList out
  | .seq a b, m, J, out => match m with
    | none => liveX res a none J (liveX res b none J out)
    | some l => match findLabel a l with
      | some _ => liveX res a m J (liveX res b none J out)
      | none => liveX res b m J out
  | .cond c a b, _, J, out => addN (addN (liveX res a none J out) (liveX res b none J out)) (match c with | .tmp t => [t] | _ => [])
  | .block id a, _, J, out => liveX res a none ((id, [], out) :: J) out
  | .loop a, _, J, _ => liveX res a none J []
  | .scope a, _, J, out => liveX res a none (match labelOf a with
      | some l => (gj l, [], liveX res a (some l) J out) :: J
      | none => J) out
  | .exit id, _, J, _ => match jointOf J id with
    | some x => x.2
    | none => []
  | .goto l, _, J, _ => match jointOf J (gj l) with
    | some x => x.2
    | none => []
  | .ret, _, _, _ => res
  | _, _, _, out => out
abbrev liveIn (res : List Nat) (c : Code) (J : Joints) (out : List Nat) : List Nat := liveX res c none J out
def liveN (wr rd : List Nat) : List Nat := (addN [] wr).filter fun x => memN x rd
def opShape (P : Program) (o : Oper) : Option Sh :=
  match o.op with
  | .alloc _ => some (.c .addr)
  | .box _ _ => some (.c .addr)
  | .fieldAddr _ _ _ => some (.c .addr)
  | .indexAddr _ _ _ => some (.c .addr)
  | _ => shT P o.type
def findDst (P : Program) (t : Nat) : List Oper → Option Sh
  | [] => none
  | o :: r => match o.dst with
    | some d => match Nat.beq d t with
      | true => match o.op with
        | .extract _ _ => findDst P t r
        | _ => opShape P o
      | false => findDst P t r
    | none => findDst P t r
def findSlot (P : Program) (t : Nat) : Code → Option Sh
  | .region _ ops _ => findDst P t ops.toList
  | .seq a b => match findSlot P t a with | some t => some t | none => findSlot P t b
  | .cond _ a b => match findSlot P t a with | some t => some t | none => findSlot P t b
  | .block _ a => findSlot P t a
  | .loop a => findSlot P t a
  | .scope a => findSlot P t a
  | _ => none
def slotType (P : Program) (fn : Func) (c : Code) (t : Nat) : Option Sh :=
  match (fn.params.toList)[t]? with
  | some ty => shT P ty
  | none => findSlot P t c
def resSlots : List ResultVar → List Nat
  | [] => []
  | .tmp t :: r => t :: resSlots r
  | .cell t _ :: r => t :: resSlots r
def outs (r : Regs) : List Nat → Option (List AV)
  | [] => some []
  | t :: ts => match r t, outs r ts with
    | some v, some vs => some (v :: vs)
    | _, _ => none
def shapes (P : Program) (fn : Func) (c : Code) : List Nat → Option (List Sh)
  | [] => some []
  | t :: ts => match slotType P fn c t, shapes P fn c ts with
    | some s, some ss => some (s :: ss)
    | _, _ => none
def lay (r : Regs) : (ts : List Nat) → (vs : List AV) → Regs
  | t :: ts, v :: vs => upd (lay r ts vs) t (some v)
  | _, _ => r
def forget (r : Regs) (ws : List Nat) : Regs := fun t => match memN t ws with | true => none | false => r t
def retLoads (P : Program) (r : Regs) : List ResultVar → (List AV → M) → M
  | [], k => k []
  | .tmp t :: rs, k => match r t with
    | some v => retLoads P r rs fun vs => k (v :: vs)
    | none => .fail
  | .cell a t :: rs, k => loadOp P t (.tmp a) r fun _ v => retLoads P r rs fun vs => k (v :: vs)
noncomputable def runR (P : Program) (n : Nat) (ops : Array Oper) (draw : Bool) (r : Regs) (k : Regs → M) : M :=
  match draw with
  | false => seqOps P n ops.toList ops.toList r k
  | true => match Region.noSelect ops && (apartAll ops && insideAll ops) with
    | true => drawOps P n ops.toList (ops.size + 1) 0 [] r k
    | false => .fail
inductive Md where
  | all
  | pre (l : Nat)
  | rest (l : Nat)
def offG (c : Code) : Joints → Joints
  | [] => []
  | (i, x) :: r => match Nat.ble 1000 i && (findLabel c (i - 1000)).isSome with | true => offG c r | false => (i, x) :: offG c r
noncomputable def den (P : Program) (fn : Func) (body : Code) : Code → Md → Regs → Joints → List Nat → (Regs → M) → M
  | .skip, .all, r, _, _, k => k r
  | .region _ ops draw, .all, r, _, after, k =>
    match jointed ops draw with
    | false => runR P fn.ntmps ops draw r k
    | true =>
      let ws := ops.toList.filterMap (·.dst)
      let ts := liveN ws after
      match shapes P fn body ts with
      | some ss => .bind none (runR P fn.ntmps ops draw r fun r => match outs r ts with
          | some vs => .done .normal vs
          | none => .fail) ss fun x => k (lay (forget r ws) ts (SV.list ss x))
      | none => .fail
  | .seq a b, .all, r, J, after, k => den P fn body a .all r J (liveIn (resSlots fn.results.toList) b J after) fun r => den P fn body b .all r J after k
  | .cond c a b, .all, r, J, after, k => ev r c fun
    | .c .tt => den P fn body a .all r J after k
    | .c .ff => den P fn body b .all r J after k
    | .c (.bool t) =>
      match fallsC a && fallsC b with
      | false => .ite t (den P fn body a .all r J after k) (den P fn body b .all r J after k)
      | true =>
        let ws := writesC a ++ writesC b
        let ts := liveN ws after
        match shapes P fn body ts with
        | some ss =>
          let out : Regs → M := fun r => match outs r ts with
            | some vs => .done .normal vs
            | none => .fail
          .bind none (.ite t (den P fn body a .all r J after out) (den P fn body b .all r J after out)) ss fun x => k (lay (forget r ws) ts (SV.list ss x))
        | none => .fail
    | _ => .fail
  | .block id a, .all, r, J, after, k =>
    match Nat.ble 1000 id with
    | true => .fail
    | false =>
    match usesExit id a with
    | false => den P fn body a .all r (dropJ id J) after k
    | true =>
    let ws := writesC a
    let ts := liveN ws after
    match shapes P fn body ts with
    | some ss => .bind (some id) (den P fn body a .all r ((id, ts, after) :: J) after fun r => match outs r ts with
        | some vs => .done .normal vs
        | none => .fail) ss fun x => k (lay (forget r ws) ts (SV.list ss x))
    | none => .fail
  | .loop a, .all, r, J, _, _ =>
    let ws := writesC a
    let li := liveIn (resSlots fn.results.toList) a J []
    let ts := (liveN ws li).filter fun t => (r t).isSome
    match shapes P fn body ts, outs r ts with
    | some ss, some vs => .loop ss vs fun x => den P fn body a .all (lay (forget r ws) ts (SV.list ss x)) J li fun r => match outs r ts with
        | some vs => .done .normal vs
        | none => .fail
    | _, _ => .fail
  | .exit id, .all, r, J, _, _ => match Nat.ble 1000 id with
    | true => .fail
    | false => match (jointOf J id).bind (fun x => outs r x.1) with
    | some vs => .done (.exit id) vs
    | none => .fail
  | .scope a, .all, r, J, after, k => match labelOf a with
    | none => den P fn body a .all r (offG a J) after k
    | some l => match jumps l a, findLabel a l with
      | true, some rest =>
        let ws := writesC a
        let li := liveX (resSlots fn.results.toList) a (some l) (offG a J) after
        let ts := liveN ws li
        match shapes P fn body ts with
        | some ss => match jumps l rest with
          | false => .bind (some (gj l)) (den P fn body a (.pre l) r ((gj l, ts, li) :: offG a J) after fun r => match outs r ts with
            | some vs => .done .normal vs
            | none => .fail) ss fun x => den P fn body a (.rest l) (lay (forget r ws) ts (SV.list ss x)) (offG a J) after k
          | true => .bind (some (gj l)) (den P fn body a (.pre l) r ((gj l, ts, li) :: offG a J) after fun r => match outs r ts with
            | some vs => .done .normal vs
            | none => .fail) ss fun x => .loop ss (SV.list ss x) fun y => .bind (some (gj l)) (den P fn body a (.rest l) (lay (forget r ws) ts (SV.list ss y)) ((gj l, ts, li) :: offG a J) after fun _ => .fail) ss fun z => .done .normal (SV.list ss z)
        | none => .fail
      | true, none => .fail
      | false, _ => den P fn body a .all r (offG a J) after k
  | .seq a b, .pre l, r, J, after, k => match findLabel a l with
    | some _ => den P fn body a (.pre l) r J after k
    | none => den P fn body a .all r J (liveIn (resSlots fn.results.toList) b J after) fun r => den P fn body b (.pre l) r J after k
  | .seq a b, .rest l, r, J, after, k => match findLabel a l with
    | some _ => den P fn body a (.rest l) r J (liveIn (resSlots fn.results.toList) b J after) fun r => den P fn body b .all r J after k
    | none => den P fn body b (.rest l) r J after k
  | .label l', .pre l, r, _, _, k => match l' == l with
    | true => k r
    | false => .fail
  | .label l', .rest l, r, _, _, k => match l' == l with
    | true => k r
    | false => .fail
  | .goto l, .all, r, J, _, _ => match (jointOf J (gj l)).bind (fun x => outs r x.1) with
    | some vs => .done (.exit (gj l)) vs
    | none => .fail
  | .label _, .all, r, _, _, k => k r
  | .ret, .all, r, _, _, _ => retLoads P r fn.results.toList fun vs => .done .ret vs
  | _, _, _, _, _, _ => .fail
noncomputable def denFn (P : Program) (fn : Func) (args : List AV) : M :=
  match fn.body with
  | some c => den P fn c c .all (fun t => args[t]?) [] (resSlots fn.results.toList) fun r => retLoads P r fn.results.toList fun vs => .done .ret vs
  | none => .fail
end Go.Proofs.Ytegnpimlfphncaa
namespace Go.Proofs.Ytegnpimlfphncaa
open Go
section
variable {P : Program} {n : Nat} {r : Regs} {a : Act} {QM : Ex → List AV → H → Prop} {o : Oper}
theorem Rel.put (hr : Rel n r a) {d : Nat} {v : Option AV} {u : Value} (hd : d + 1 ≤ n) (hv : ∀ x, v = some x → u = x.val) : Rel n (upd r d v) (a.put (some d) u) := by
  refine ⟨fun t x hx => ?_, by simpa [Act.put] using hr.size, hr.defers⟩
  simp only [upd] at hx
  have hs : d < a.tmps.size := by have := hr.size; omega
  split at hx
  · rename_i hb
    obtain rfl := Nat.eq_of_beq_eq_true hb
    simp only [Act.put, Array.getD_eq_getD_getElem?]
    rw [Array.getElem?_setIfInBounds_self_of_lt hs]
    exact hv x hx
  · rename_i hb
    have hne : t ≠ d := fun h => by subst h; rw [Nat.beq_refl] at hb; cases hb
    simp only [Act.put, Array.getD_eq_getD_getElem?]
    rw [Array.getElem?_setIfInBounds_ne (Ne.symm hne), ← Array.getD_eq_getD_getElem?]
    exact hr.val t x hx
theorem putR_wp {dst : Option Tmp} {v : Option AV} {k : Regs → M} {h : H} {u : Value} (hr : Rel n r a) (hv : ∀ x, v = some x → u = x.val) (hw : wp P (putR n r dst v k) QM h) :
    ∃ r', Rel n r' (a.put dst u) ∧ wp P (k r') QM h := by
  unfold putR at hw
  split at hw
  · exact ⟨r, hr, hw⟩
  · rename_i d
    split at hw
    · rename_i hb
      exact ⟨_, hr.put (Nat.le_of_ble_eq_true hb) hv, hw⟩
    · exact hw.elim
theorem Rel.upd_same (hr : Rel n r a) {d : Nat} {x y : AV} (hd : r d = some x) (hv : y.val = x.val) : Rel n (upd r d (some y)) a := by
  refine ⟨fun t z hz => ?_, hr.size, hr.defers⟩
  simp only [upd] at hz
  split at hz
  · rename_i hb
    obtain rfl := Nat.eq_of_beq_eq_true hb
    simp at hz; subst hz
    rw [hv]; exact hr.val _ _ hd
  · exact hr.val t z hz
theorem yielded_of {ops : Array Oper} (hr : Rel n r a) {j d : Nat} {x : AV} {b : Bool} (hd : (ops[j]?).bind (·.dst) = some d) (hx : r d = some x) (hb : x.val = .bool b) : yielded ops a.tmps j = some b := by
  have h1 := hr.val d x hx
  rw [hb, Array.getD_eq_getD_getElem?] at h1
  unfold yielded
  rw [hd]
  simp only [Option.bind_some]
  cases hq : a.tmps[d]? with
  | none => rw [hq] at h1; simp [undef] at h1
  | some u => rw [hq] at h1; simp at h1; subst h1; rfl
theorem guarded_wp {ops : Array Oper} {yes no : Regs → M} {h : H} (hr : Rel n r a) (hw : wp P (guarded ops.toList o r yes no) QM h) :
    ∃ r', Rel n r' a ∧ ((Region.wanted o (yielded ops a.tmps) = true ∧ wp P (yes r') QM h) ∨ (Region.wanted o (yielded ops a.tmps) = false ∧ wp P (no r') QM h)) := by
  unfold guarded at hw
  split at hw
  · rename_i hg
    exact ⟨r, hr, .inl ⟨by simp [Region.wanted, hg], hw⟩⟩
  · rename_i j want hg
    split at hw
    · exact hw.elim
    · rename_i d hd
      have hd' : (ops[j]?).bind (·.dst) = some d := by simpa using hd
      split at hw
      · rename_i hx
        have hy := yielded_of hr hd' hx (b := true) rfl
        cases want
        · exact ⟨r, hr, .inr ⟨by simp [Region.wanted, hg, hy], hw⟩⟩
        · exact ⟨r, hr, .inl ⟨by simp [Region.wanted, hg, hy], hw⟩⟩
      · rename_i hx
        have hy := yielded_of hr hd' hx (b := false) rfl
        cases want
        · exact ⟨r, hr, .inl ⟨by simp [Region.wanted, hg, hy], hw⟩⟩
        · exact ⟨r, hr, .inr ⟨by simp [Region.wanted, hg, hy], hw⟩⟩
      · rename_i b hx
        have hy := yielded_of hr hd' hx (b := b) rfl
        obtain ⟨h1, h2⟩ := hw
        cases b
        · have h2 := h2 rfl
          have hr' : Rel n (upd r d (some (.c .ff))) a := hr.upd_same hx rfl
          cases want
          · exact ⟨_, hr', .inl ⟨by simp [Region.wanted, hg, hy], h2⟩⟩
          · exact ⟨_, hr', .inr ⟨by simp [Region.wanted, hg, hy], h2⟩⟩
        · have h1 := h1 rfl
          have hr' : Rel n (upd r d (some (.c .tt))) a := hr.upd_same hx rfl
          cases want
          · exact ⟨_, hr', .inr ⟨by simp [Region.wanted, hg, hy], h1⟩⟩
          · exact ⟨_, hr', .inl ⟨by simp [Region.wanted, hg, hy], h1⟩⟩
      · rename_i vs hx
        have hy : yielded ops a.tmps j = none := by
          have h1 := hr.val d _ hx
          rw [show (AV.tup vs).val = .tuple (vs.map compVal).toArray from rfl, Array.getD_eq_getD_getElem?] at h1
          unfold yielded
          rw [hd']
          simp only [Option.bind_some]
          cases hq : a.tmps[d]? with
          | none => rfl
          | some u => rw [hq] at h1; simp at h1; subst h1; rfl
        exact ⟨r, hr, .inr ⟨by simp [Region.wanted, hg, hy], hw⟩⟩
      · exact hw.elim
theorem one_reads {k : List (PA × List Cell) → Regs → M} {h : H} (hr : Rel n r a) (hk : isEff o = false) (hw : wp P (oneOp P n o r k) QM h) :
    ∃ (got : List (PA × List Cell)) (v : Value) (r' : Regs), (∀ g ∈ got, hds h g.1 g.2) ∧
      (∀ w, (∀ g ∈ got, hds w.heap g.1 g.2) → (execOp a.eval o).run P w = .ok (.value v) w) ∧ Rel n r' (a.put o.dst v) ∧ wp P (k got r') QM h := by
  unfold oneOp at hw
  split at hw
  · split at hw
    · obtain ⟨v, hy, hw⟩ := pure_sound hr hw
      obtain ⟨r', hr', hw⟩ := putR_wp hr (u := v.val) (by simp) hw
      exact ⟨[], v.val, r', by simp, fun w _ => hy w, hr', hw⟩
    · rename_i x hx
      obtain ⟨v, hv, hw⟩ := ev_wp hw
      have he := hr.eval hv
      split at hw
      · rename_i p
        obtain ⟨hg, hp, hw⟩ := hw
        obtain ⟨r', hr', hw⟩ := putR_wp hr (u := .pointer (some p.val)) (by intro y hy; cases hy; rfl) hw
        unfold thereT at hx
        split at hx
        · rename_i s y f ho
          split at hx
          · rename_i fs h1
            split at hx
            · rename_i fld h2
              split at hx
              · rename_i hs h3 h4
                cases hx
                exact ⟨[(p, [])], _, r', fun g hg => by rw [List.mem_singleton.1 hg]; exact hp, fun w hh => there_run ho he h1 h2 rfl h3 h4 hs hg (hh _ (List.mem_singleton.2 rfl)), hr', hw⟩
              · cases hx
            · cases hx
          · cases hx
        · cases hx
      · exact hw.elim
  · split at hw
    · rename_i t x ho
      obtain ⟨p, v, h1, h2, hw⟩ := load_sound ho hr hw
      obtain ⟨r', hr', hw⟩ := putR_wp hr (u := v.val) (by simp) hw
      refine ⟨gotOf p (cellsAV v), v.val, r', ?_, fun w hh => h2 w ?_, hr', hw⟩
      · cases hc : cellsAV v with
        | nil => simp [gotOf]
        | cons c cs => rw [hc] at h1; exact fun g hg => by rw [List.mem_singleton.1 hg]; exact h1
      · cases hc : cellsAV v with
        | nil => exact fun j v hj => by simp at hj
        | cons c cs => rw [hc] at hh; exact hh _ (List.mem_singleton.2 rfl)
    · exact hw.elim
  · rename_i hkd
    simp [isEff, hkd] at hk
theorem one_sound {k : List (PA × List Cell) → Regs → M} {K : Act → World → Prop} {Qc : Exit → Act → World → Prop} {w : World} (hr : Rel n r a)
    (hK : ∀ got r' v w', Ext w w' → Rel n r' (a.put o.dst v) → wp P (k got r') QM w'.heap → K (a.put o.dst v) w') (hw : wp P (oneOp P n o r k) QM w.heap) : o.wp P a w K Qc := by
  by_cases he : isEff o = true
  · unfold oneOp at hw
    split at hw
    · rename_i hkd; simp [isEff, hkd] at he
    · rename_i hkd; simp [isEff, hkd] at he
    · refine eff_sound hr (fun v w' hx hw' => ?_) hw
      obtain ⟨r', hr', hw'⟩ := putR_wp (u := (v.map AV.val).getD undef) hr (by intro x hx; subst hx; rfl) hw'
      exact hK _ r' _ w' hx hr' hw'
  · obtain ⟨got, v, r', h1, h2, hr', hw'⟩ := one_reads hr (by simpa using he) hw
    exact Oper.wp_value (h2 w h1) (hK got r' v w (Ext.refl w) hr' hw')
def Same (ws : List Nat) (a0 a : Act) : Prop := ∀ t, t ∉ ws → a.tmps.getD t undef = a0.tmps.getD t undef
theorem Same.refl (ws : List Nat) (a : Act) : Same ws a a := fun _ _ => rfl
theorem Same.put {ws : List Nat} {a0 a : Act} {d : Option Tmp} {v : Value} (h : Same ws a0 a) (hd : ∀ x, d = some x → x ∈ ws) : Same ws a0 (a.put d v) := by
  intro t ht
  cases d with
  | none => exact h t ht
  | some x =>
    have hne : x ≠ t := fun e => ht (e ▸ hd x rfl)
    have := h t ht
    simp only [Act.put, Array.getD_eq_getD_getElem?] at this ⊢
    rw [Array.getElem?_setIfInBounds_ne hne]
    exact this
theorem Same.trans {ws us : List Nat} {a b c : Act} (h : Same ws a b) (g : Same us b c) : Same (ws ++ us) a c := fun t ht => by
  rw [g t (fun hh => ht (List.mem_append.2 (.inr hh))), h t (fun hh => ht (List.mem_append.2 (.inl hh)))]
theorem Same.mono {ws us : List Nat} {a b : Act} (h : Same ws a b) (hs : ∀ x ∈ ws, x ∈ us) : Same us a b := fun t ht => h t (fun hh => ht (hs t hh))
theorem seq_sound {ops : Array Oper} {Q : Exit → Act → World → Prop} {w0 : World} {ws : List Nat} {a0 : Act} : ∀ (rest : List Oper) {r : Regs} {a : Act} {k : Regs → M} {w : World}, (∀ o ∈ rest, ∀ d, o.dst = some d → d ∈ ws) → Same ws a0 a → Rel n r a → Ext w0 w →
    (∀ r' a' w', Rel n r' a' → Ext w0 w' → Same ws a0 a' → wp P (k r') QM w'.heap → Q .normal a' w') → wp P (seqOps P n ops.toList rest r k) QM w.heap → wpList P ops Q rest a w
  | [], r, a, k, w, _, hs, hr, hx, hk, hw => hk _ _ _ hr hx hs hw
  | o :: rest, r, a, k, w, hws, hs, hr, hx, hk, hw => by
    have hws' : ∀ o ∈ rest, ∀ d, o.dst = some d → d ∈ ws := fun o' ho' => hws o' (List.mem_cons_of_mem _ ho')
    have hd := hws o (List.mem_cons_self ..)
    obtain ⟨r', hr', h⟩ := guarded_wp hr hw
    unfold wpList
    rcases h with ⟨h1, hw⟩ | ⟨h1, hw⟩
    · rw [if_pos h1]
      refine .inl (one_sound hr' (fun got r2 v w' hx' hr2 hw' => seq_sound rest hws' (hs.put hd) hr2 (hx.trans hx') hk hw') hw)
    · rw [if_neg (by simp [h1])]
      obtain ⟨r2, hr2, hw⟩ := putR_wp (u := undef) hr' (by intro x hx; cases hx; rfl) hw
      exact seq_sound rest hws' (hs.put hd) hr2 hx hk hw
end
section
variable {P : Program} {ops : Array Oper} {Q : Exit → Act → World → Prop}
abbrev Held := List (Nat × PA × List Cell)
def heldOk (held : Held) (w : World) : Prop := ∀ x ∈ held, hds w.heap x.2.1 x.2.2
def keep (ops : Array Oper) (j : Nat) (held : Held) : Held := held.filter fun x => !((ops[j]?).map fun o => has (waitsM ops.toList o) x.1).getD false
theorem has_bit (i j : Nat) : has (bit i) j = decide (i = j) := by
  show Nat.testBit (2 ^ i) j = _
  exact Nat.testBit_two_pow
theorem has_lor (a b i : Nat) : has (Nat.lor a b) i = (has a i || has b i) := Nat.testBit_or a b i
theorem has_land (a b i : Nat) : has (Nat.land a b) i = (has a i && has b i) := Nat.testBit_and a b i
theorem has_zero (i : Nat) : has 0 i = false := Nat.zero_testBit i
theorem predsL_iff : ∀ {l : List Edge} {i : Nat}, has (predsL l) i = true ↔ ∃ e ∈ l, Region.binds .any e = true ∧ e.on = i
  | [], i => by simp [predsL, has_zero]
  | e :: r, i => by
    simp only [predsL]
    split
    · rename_i hb
      rw [has_lor, has_bit, Bool.or_eq_true, predsL_iff]
      constructor
      · rintro (h | ⟨x, h1, h2⟩)
        · exact ⟨e, by simp, hb, of_decide_eq_true h⟩
        · exact ⟨x, by simp [h1], h2⟩
      · rintro ⟨x, h1, h2, h3⟩
        rcases List.mem_cons.1 h1 with rfl | h1
        · exact .inl (decide_eq_true h3)
        · exact .inr ⟨x, h1, h2, h3⟩
    · rename_i hb
      rw [predsL_iff]
      constructor
      · rintro ⟨x, h1, h2⟩
        exact ⟨x, by simp [h1], h2⟩
      · rintro ⟨x, h1, h2, h3⟩
        rcases List.mem_cons.1 h1 with rfl | h1
        · rw [h2] at hb; cases hb
        · exact ⟨x, h1, h2, h3⟩
theorem preds_iff {o : Oper} {i : Nat} : has (preds o) i = true ↔ ∃ e ∈ o.after, Region.binds .any e = true ∧ e.on = i := by
  unfold preds
  rw [predsL_iff]
  simp
def game (P : Program) (ops : Array Oper) (Q : Exit → Act → World → Prop) : Nat → Array Bool → Held → Act → World → Prop
  | 0, listed, _, a, w => Region.ready .any ops listed = [] ∧ Q .normal a w
  | f + 1, listed, held, a, w => (Region.ready .any ops listed = [] → Q .normal a w) ∧
    ∀ j ∈ Region.ready .any ops listed, wpOp P ops Q j (fun a' w' => heldOk (keep ops j held) w' ∧ game P ops Q f (listed.setIfInBounds j true) (keep ops j held) a' w') a w
theorem any_of_game : ∀ (f : Nat) (listed : Array Bool) (held : Held) (a : Act) (w : World), game P ops Q f listed held a w → wpAny P .any ops Q f listed a w
  | 0, _, _, _, _, h => h
  | f + 1, _, _, _, _, h => ⟨h.1, fun i hi => wpOp_mono (fun a' w' h' => any_of_game f _ _ a' w' h'.2) (h.2 i hi)⟩
theorem keep_sub {j : Nat} {held : Held} : ∀ x ∈ keep ops j held, x ∈ held := fun _ hx => (List.mem_filter.1 hx).1
theorem game_mono : ∀ (f : Nat) (listed : Array Bool) (h1 h2 : Held) (a : Act) (w : World), (∀ x ∈ h2, x ∈ h1) → game P ops Q f listed h1 a w → game P ops Q f listed h2 a w
  | 0, _, _, _, _, _, _, h => h
  | f + 1, _, h1, h2, _, _, hs, h => ⟨h.1, fun j hj => wpOp_mono (fun a' w' ⟨g1, g2⟩ => by
      have hs' : ∀ x ∈ keep ops j h2, x ∈ keep ops j h1 := fun x hx => by
        obtain ⟨m1, m2⟩ := List.mem_filter.1 hx
        exact List.mem_filter.2 ⟨hs x m1, m2⟩
      exact ⟨fun x hx => g1 x (hs' x hx), game_mono f _ _ _ a' w' hs' g2⟩) (h.2 j hj)⟩
theorem game_done {listed : Array Bool} {held : Held} {a : Act} {w : World} (hr : Region.ready .any ops listed = []) (h : Q .normal a w) : ∀ f, game P ops Q f listed held a w
  | 0 => ⟨hr, h⟩
  | _ + 1 => ⟨fun _ => h, by rw [hr]; simp⟩
def Closed (ops : Array Oper) (listed : Array Bool) : Prop :=
  ∀ j, listed.getD j false = true → ∀ o, ops[j]? = some o → ∀ e ∈ o.after, Region.binds .any e = true → listed.getD e.on false = true
theorem ready_spec {listed : Array Bool} {j : Nat} (hj : j ∈ Region.ready .any ops listed) : listed.getD j true = false ∧ ∃ o, ops[j]? = some o ∧ ∀ e ∈ o.after, Region.binds .any e = true → listed.getD e.on false = true :=
  mem_ready.1 hj
theorem Closed.set {listed : Array Bool} {j : Nat} (hc : Closed ops listed) (hj : j ∈ Region.ready .any ops listed) : Closed ops (listed.setIfInBounds j true) := by
  obtain ⟨h0, o, ho, ha⟩ := ready_spec hj
  intro k hk ok hok e he hb
  by_cases hkj : k = j
  · subst hkj
    rw [ho] at hok
    obtain rfl := Option.some.inj hok
    exact getD_set_true (ha e he hb)
  · refine getD_set_true (hc k ?_ ok hok e he hb)
    rw [← getD_set_ne false (Ne.symm hkj)]
    exact hk
theorem predsIn_has {m : Nat} : ∀ {l : List Oper} {k i : Nat}, has (predsIn m l k) i = true → ∃ (j : Nat) (o : Oper), l[j]? = some o ∧ has m (k + j) = true ∧ has (preds o) i = true
  | [], k, i, h => by simp [predsIn, has_zero] at h
  | o :: r, k, i, h => by
    simp only [predsIn] at h
    split at h
    · rename_i hm
      rw [has_lor, Bool.or_eq_true] at h
      rcases h with h | h
      · exact ⟨0, o, by simp, by simpa using hm, h⟩
      · obtain ⟨j, p, h1, h2, h3⟩ := predsIn_has h
        exact ⟨j + 1, p, by simpa using h1, by rw [show k + (j + 1) = k + 1 + j by omega]; exact h2, h3⟩
    · obtain ⟨j, p, h1, h2, h3⟩ := predsIn_has h
      exact ⟨j + 1, p, by simpa using h1, by rw [show k + (j + 1) = k + 1 + j by omega]; exact h2, h3⟩
theorem close_listed {listed : Array Bool} (hc : Closed ops listed) : ∀ (f m : Nat), (∀ i, has m i = true → listed.getD i false = true) → ∀ i, has (closeM ops.toList f m) i = true → listed.getD i false = true
  | 0, m, hm, i, h => hm i h
  | f + 1, m, hm, i, h => by
    simp only [closeM] at h
    split at h
    · exact hm i h
    · refine close_listed hc f _ (fun j hj => ?_) i h
      rw [has_lor, Bool.or_eq_true] at hj
      rcases hj with hj | hj
      · exact hm j hj
      · obtain ⟨u, o, h1, h2, h3⟩ := predsIn_has hj
        rw [Nat.zero_add] at h2
        obtain ⟨e, he, hb, rfl⟩ := preds_iff.1 h3
        exact hc u (hm u h2) o (by simpa using h1) e he hb
theorem waits_listed {listed : Array Bool} (hc : Closed ops listed) {j i : Nat} {o : Oper} (_ho : ops[j]? = some o) (hp : ∀ e ∈ o.after, Region.binds .any e = true → listed.getD e.on false = true)
    (h : has (waitsM ops.toList o) i = true) : listed.getD i false = true :=
  close_listed hc _ _ (fun k hk => by obtain ⟨e, he, hb, rfl⟩ := preds_iff.1 hk; exact hp e he hb) i h
theorem game_first {i : Nat} {oi : Oper} {v : Value} {got : List (PA × List Cell)} (hi : ops[i]? = some oi) (hsel : ∀ (j : Nat) (o : Oper) cs b, ops[j]? = some o → o.op ≠ .select cs b)
    (hQ : ∀ c a w, Q (.panic c) (a.put oi.dst v) w → Q (.panic c) a w) :
    ∀ (f : Nat) (listed : Array Bool) (held : Held) (a : Act) (w : World), Closed ops listed →
      (∀ j oj, ops[j]? = some oj → j ≠ i → listed.getD j true = false → has (waitsM ops.toList oj) i = false → oi.apart ops oj = true) →
      i ∈ Region.ready .any ops listed → YieldsIf P ops (fun w => ∀ g ∈ got, hds w.heap g.1 g.2) oi v a →
      (∀ g ∈ got, hds w.heap g.1 g.2) → heldOk held w →
      game P ops Q f (listed.setIfInBounds i true) (got.map (fun g => (i, g.1, g.2)) ++ held) (a.put oi.dst v) w → game P ops Q (f + 1) listed held a w := by
  intro f
  induction f with
  | zero =>
    intro listed held a w _ _ hr hy hg hh H
    refine ⟨fun h => (by rw [h] at hr; cases hr), fun j hj => ?_⟩
    by_cases hji : j = i
    · subst hji
      exact hy.wpOp hi hg ⟨fun x hx => hh x (keep_sub x hx), H⟩
    · have := ready_mono hj hji
      rw [H.1] at this
      cases this
  | succ f ih =>
    intro listed held a w hc hfree hr hy hg hh H
    refine ⟨fun h => (by rw [h] at hr; cases hr), fun j hj => ?_⟩
    by_cases hji : j = i
    · subst hji
      refine hy.wpOp hi hg ⟨fun x hx => hh x (keep_sub x hx), game_mono _ _ _ _ _ _ (fun x hx => ?_) H⟩
      exact List.mem_append.2 (.inr (keep_sub x hx))
    · have h1 := H.2 j (ready_mono hj hji)
      obtain ⟨hjun, oj, hoj, hall⟩ := ready_spec hj
      have hnw : has (waitsM ops.toList oj) i = false := by
        cases hwt : has (waitsM ops.toList oj) i with
        | false => rfl
        | true =>
          have h1 := waits_listed hc hoj hall hwt
          have h0 := (ready_spec hr).1
          rcases Nat.lt_or_ge i listed.size with h' | h'
          · simp [h'] at h0 h1; rw [h0] at h1; cases h1
          · simp [Array.getElem?_eq_none h'] at h1
      have hkeep : keep ops j (got.map (fun g => (i, g.1, g.2)) ++ held) = got.map (fun g => (i, g.1, g.2)) ++ keep ops j held := by
        simp only [keep, List.filter_append]
        congr 1
        rw [List.filter_eq_self]
        intro x hx
        obtain ⟨g, _, rfl⟩ := List.mem_map.1 hx
        simp [hnw, hoj]
      rw [hkeep] at h1
      have h2 := wpOp_putIf hoj (hfree j oj hoj hji hjun hnw) (fun cs b => hsel i oi cs b hi) (fun cs b => hsel j oj cs b hoj) hQ hy h1
      have hfree' : ∀ k ok, ops[k]? = some ok → k ≠ i → (listed.setIfInBounds j true).getD k true = false →
          has (waitsM ops.toList ok) i = false → oi.apart ops ok = true := fun k ok hk hki hun hno => by
        refine hfree k ok hk hki ?_ hno
        by_cases hjk : j = k
        · subst hjk; exact hjun
        · rw [getD_set_ne true hjk] at hun; exact hun
      refine wpOp_mono (fun a' w' ⟨hy', hg', H'⟩ => ?_) h2
      have hgot : ∀ g ∈ got, hds w'.heap g.1 g.2 := fun g hgm =>
        hg' (i, g.1, g.2) (List.mem_append.2 (.inl (List.mem_map.2 ⟨g, hgm, rfl⟩)))
      have hheld : heldOk (keep ops j held) w' := fun x hx => hg' x (List.mem_append.2 (.inr hx))
      refine ⟨hheld, ih (listed.setIfInBounds j true) (keep ops j held) a' w' (hc.set hj) hfree' (ready_mono hr (Ne.symm hji)) hy' hgot hheld ?_⟩
      rw [Array.setIfInBounds_comm _ _ hji]
      exact H'
theorem heldAll_wp {QM : Ex → List AV → H → Prop} {h : H} : ∀ {l : List (PA × List Cell)} {k : M}, wp P (heldAll l k) QM h → (∀ x ∈ l, hds h x.1 x.2) ∧ wp P k QM h := by
  have go : ∀ (cs : List Cell) (p : PA) (k : M), wp P (heldAll.go p cs k) QM h → rds h p (cs.map Cell.val) ∧ wp P k QM h := by
    intro cs
    induction cs with
    | nil => exact fun p k hw => ⟨fun j v hj => by simp at hj, hw⟩
    | cons c cs ih =>
      intro p k hw
      obtain ⟨h1, hw⟩ := hw
      obtain ⟨h2, hw⟩ := ih _ _ hw
      refine ⟨fun j v hj => ?_, hw⟩
      cases j with
      | zero => simp at hj; subst hj; exact h1
      | succ j =>
        have := h2 j v (by simpa using hj)
        simp only [Nat.add_assoc, Nat.add_comm 1] at this
        exact this
  intro l
  induction l with
  | nil => exact fun hw => ⟨by simp, hw⟩
  | cons x l ih =>
    intro k hw
    obtain ⟨p, cs⟩ := x
    cases cs with
    | nil =>
      obtain ⟨_, h1, hw⟩ := hw
      obtain ⟨h2, hw⟩ := ih hw
      exact ⟨fun x hx => (List.mem_cons.1 hx).elim (fun e => e ▸ h1) (h2 x), hw⟩
    | cons c cs =>
      obtain ⟨h1, hw⟩ := go (c :: cs) p _ hw
      obtain ⟨h2, hw⟩ := ih hw
      exact ⟨fun x hx => (List.mem_cons.1 hx).elim (fun e => e ▸ h1) (h2 x), hw⟩
theorem pickFree_spec {ops : List Oper} : ∀ {l : List Nat} {i : Nat}, pickFree ops l = some i → i ∈ l ∧ ∃ o, ops[i]? = some o ∧ isEff o = false
  | [], i, h => by simp [pickFree] at h
  | j :: l, i, h => by
    simp only [pickFree] at h
    split at h
    · rename_i o ho
      split at h
      · rename_i h1
        simp at h; subst h
        exact ⟨by simp, o, ho, h1⟩
      · obtain ⟨h1, h2⟩ := pickFree_spec h
        exact ⟨by simp [h1], h2⟩
    · obtain ⟨h1, h2⟩ := pickFree_spec h
      exact ⟨by simp [h1], h2⟩
def Bits (ops : Array Oper) (listed : Array Bool) (done : Nat) : Prop := listed.size = ops.size ∧ ∀ i, i < ops.size → listed.getD i false = has done i
theorem Bits.set {listed : Array Bool} {done i : Nat} (hb : Bits ops listed done) (_hi : i < ops.size) : Bits ops (listed.setIfInBounds i true) (Nat.lor done (bit i)) := by
  refine ⟨by simpa using hb.1, fun j hj => ?_⟩
  rw [has_lor, has_bit, ← hb.2 j hj]
  by_cases hij : i = j
  · subst hij
    have hs := hb.1
    simp [hs, hj]
  · rw [getD_set_ne false hij]
    simp [hij]
theorem readyM_eq {done : Nat} : ∀ (l : List Oper) (k : Nat), readyM done l k = ((List.range' k l.length).filter fun i => !has done i && ((l[i - k]?).map fun o => Nat.beq (Nat.land (preds o) done) (preds o)).getD false)
  | [], k => rfl
  | o :: r, k => by
    simp only [readyM, List.length_cons, List.range'_succ, List.filter_cons, Nat.sub_self, List.getElem?_cons_zero, Option.map_some, Option.getD_some]
    have e : (List.range' (k + 1) r.length).filter (fun i => !has done i && (((o :: r)[i - k]?).map fun o => Nat.beq (Nat.land (preds o) done) (preds o)).getD false) = readyM done r (k + 1) := by
      rw [readyM_eq r (k + 1)]
      refine List.filter_congr (fun i hi => ?_)
      have h1 : k + 1 ≤ i := (List.mem_range'_1.1 hi).1
      rw [show i - k = (i - (k + 1)) + 1 by omega, List.getElem?_cons_succ]
    rw [e]
    split
    · rename_i h1 h2; rw [h1, h2]; rfl
    · rename_i hn
      cases h1 : has done k with
      | true => simp
      | false =>
        cases h2 : Nat.beq (Nat.land (preds o) done) (preds o) with
        | true => exact absurd h2 (by simpa [h1] using hn)
        | false => rfl
theorem ready_eq {listed : Array Bool} {done : Nat} (hb : Bits ops listed done) (hin : ∀ (j : Nat) (o : Oper), ops[j]? = some o → ∀ e ∈ o.after, Region.binds .any e = true → e.on < ops.size) :
    Region.ready .any ops listed = readyM done ops.toList 0 := by
  rw [readyM_eq, Region.ready, List.range_eq_range']
  have : ops.size = ops.toList.length := by simp
  rw [← this]
  refine List.filter_congr (fun i hi => ?_)
  have hlt : i < ops.size := by have := (List.mem_range'_1.1 hi).2; omega
  have h1 : listed.getD i true = has done i := by
    rw [← hb.2 i hlt]
    have : i < listed.size := by rw [hb.1]; exact hlt
    simp [this]
  rw [h1, Nat.sub_zero]
  congr 1
  simp only [Array.getElem?_toList]
  cases ho : ops[i]? with
  | none => rfl
  | some o =>
    simp only [Option.map_some, Option.getD_some]
    rw [Bool.eq_iff_iff, Array.all_eq_true']
    constructor
    · intro h
      have hall : Nat.land (preds o) done = preds o := Nat.eq_of_testBit_eq fun j => ?_
      · rw [hall]; exact Nat.beq_refl _
      show has (Nat.land (preds o) done) j = has (preds o) j
      rw [has_land]
      cases hp : has (preds o) j with
      | false => rfl
      | true =>
        obtain ⟨e, he, hbd, rfl⟩ := preds_iff.1 hp
        have := h e he
        simp only [hbd, Bool.not_true, Bool.false_or] at this
        rw [hb.2 _ (hin i o ho e he hbd)] at this
        simp [this]
    · intro h e he
      have hq := Nat.eq_of_beq_eq_true h
      cases hbd : Region.binds .any e with
      | false => rfl
      | true =>
        have hp : has (preds o) e.on = true := preds_iff.2 ⟨e, he, hbd, rfl⟩
        have h2 : has (Nat.land (preds o) done) e.on = true := by rw [hq]; exact hp
        rw [has_land, hp, Bool.true_and] at h2
        simp only [Bool.not_true, Bool.false_or]
        rw [hb.2 _ (hin i o ho e he hbd)]
        exact h2
theorem allOf_wp {QM : Ex → List AV → H → Prop} {h : H} : ∀ {l : List M}, wp P (allOf l) QM h → l ≠ [] ∧ ∀ m ∈ l, wp P m QM h
  | [], hw => hw.elim
  | [x], hw => ⟨by simp, by simpa [allOf] using hw⟩
  | x :: y :: r, hw => by
    obtain ⟨h1, h2⟩ : wp P x QM h ∧ wp P (allOf (y :: r)) QM h := hw
    refine ⟨by simp, fun m hm => ?_⟩
    rcases List.mem_cons.1 hm with rfl | hm
    · exact h1
    · exact (allOf_wp h2).2 m hm
theorem close_sub {ops : List Oper} {i : Nat} : ∀ (f m : Nat), has m i = true → has (closeM ops f m) i = true
  | 0, _, h => h
  | f + 1, m, h => by
    simp only [closeM]
    split
    · exact h
    · exact close_sub f _ (by rw [has_lor, h]; rfl)
theorem apart_of {i j : Nat} {x y : Oper} (ha : apartAll ops = true) (hx : isEff x = false) (hi : ops[i]? = some x) (hj : ops[j]? = some y) (hne : j ≠ i) (h1 : has (waitsM ops.toList x) j = false)
    (h2 : has (waitsM ops.toList y) i = false) : x.apart ops y = true := by
  simp only [apartAll, List.all_eq_true] at ha
  have mi : (x, i) ∈ ops.toList.zipIdx := by rw [List.mem_zipIdx_iff_getElem?]; simpa using hi
  have mj : (y, j) ∈ ops.toList.zipIdx := by rw [List.mem_zipIdx_iff_getElem?]; simpa using hj
  have := ha (x, i) mi (y, j) mj
  simp only [Bool.or_eq_true] at this
  rcases this with (((((h | h) | h) | h) | h) | h) | h
  · exact absurd (Nat.eq_of_beq_eq_true h).symm hne
  · unfold waitsM at h1; rw [close_sub _ _ h] at h1; cases h1
  · unfold waitsM at h2; rw [close_sub _ _ h] at h2; cases h2
  · rw [hx] at h; simp at h
  · exact h
  · rw [h] at h1; cases h1
  · rw [h] at h2; cases h2
theorem Oper.wp_false {o : Oper} {a : Act} {w : World} (h : o.wp P a w (fun _ _ => False) (fun _ _ _ => False)) : False := by
  unfold Oper.wp at h
  generalize (execOp a.eval o).run P w = res at h
  cases res with
  | ok nx w' =>
    cases nx <;> simp only [Oper.upon] at h
    case enter f args =>
      obtain ⟨e, w'', fr, hR, _⟩ := h []
      cases e with
      | returned v => exact hR
      | panicked c => exact hR
      | outgrown => obtain ⟨_, _, hq⟩ := hR; exact hq
    case row row args =>
      obtain ⟨v, w'', hR, _⟩ := h default []
      exact hR
  | halt x w' => cases x <;> simp only [Oper.upon] at h
theorem draw_sound {n : Nat} {QM : Ex → List AV → H → Prop} {w0 : World} (hsel : ∀ (j : Nat) (o : Oper) cs b, ops[j]? = some o → o.op ≠ .select cs b)
    (hap : apartAll ops = true) (hin : ∀ (j : Nat) (o : Oper), ops[j]? = some o → ∀ e ∈ o.after, Region.binds .any e = true → e.on < ops.size)
    (hQ : ∀ c a w, ¬ Q (.panic c) a w) {ws : List Nat} {a0 : Act} (hws : ∀ (j : Nat) (o : Oper), ops[j]? = some o → ∀ d, o.dst = some d → d ∈ ws) {k : Regs → M}
    (hk : ∀ r' a' w', Rel n r' a' → Ext w0 w' → Same ws a0 a' → wp P (k r') QM w'.heap → Q .normal a' w') :
    ∀ (f : Nat) {listed : Array Bool} {done : Nat} {held : Held} {r : Regs} {a : Act} {w : World}, Bits ops listed done → Same ws a0 a → Closed ops listed → heldOk held w → Rel n r a → Ext w0 w →
      wp P (drawOps P n ops.toList (f + 1) done held r k) QM w.heap → game P ops Q f listed held a w
  | f, listed, done, held, r, a, w, hbits, hs, hc, hh, hr, hx, hw => by
    have hreq := ready_eq hbits hin
    unfold drawOps at hw
    split at hw
    · rename_i hready
      exact game_done (hreq.trans hready) (hk _ _ _ hr hx hs hw) f
    · rename_i i0 more hready
      have hlt : ∀ {i : Nat} {o : Oper}, ops[i]? = some o → i < ops.size := fun ho => (Array.getElem?_eq_some_iff.1 ho).1
      split at hw
      · rename_i i hp
        obtain ⟨hmem, o, ho, he⟩ := pickFree_spec hp
        rw [← hready, ← hreq] at hmem
        simp only [ho] at hw
        have ho' : ops[i]? = some o := by simpa using ho
        obtain ⟨r', hr', hg⟩ := guarded_wp hr hw
        have hfree : ∀ j oj, ops[j]? = some oj → j ≠ i → listed.getD j true = false → has (waitsM ops.toList oj) i = false → o.apart ops oj = true := by
          intro j oj hj hne hun hno
          refine apart_of hap he ho' hj hne ?_ hno
          cases hwt : has (waitsM ops.toList o) j with
          | false => rfl
          | true =>
            obtain ⟨_, o2, ho2, hall⟩ := ready_spec hmem
            rw [ho'] at ho2
            obtain rfl := Option.some.inj ho2
            have h1 := waits_listed hc ho' hall hwt
            have : j < listed.size := by rw [hbits.1]; exact hlt hj
            simp [this] at hun h1
            rw [hun] at h1; cases h1
        cases f with
        | zero =>
          rcases hg with ⟨_, hw⟩ | ⟨_, hw⟩
          · obtain ⟨_, _, _, _, _, _, hw⟩ := one_reads hr' he hw
            exact hw.elim
          · obtain ⟨_, _, hw⟩ := putR_wp (u := undef) hr' (by intro x hx; cases hx; rfl) hw
            exact hw.elim
        | succ f =>
          rcases hg with ⟨hwant, hw⟩ | ⟨hwant, hw⟩
          · obtain ⟨got, v, r2, h1, h2, hr2, hw⟩ := one_reads hr' he hw
            refine game_first ho' hsel (fun c a w h => (hQ c _ w h).elim) f listed held a w hc hfree hmem (.inl ⟨hwant, h2⟩) h1 hh ?_
            refine draw_sound hsel hap hin hQ hws hk f (hbits.set (hlt ho')) (hs.put (hws _ _ ho')) (hc.set hmem) ?_ hr2 hx hw
            intro x hxm
            rcases List.mem_append.1 hxm with hxm | hxm
            · obtain ⟨g, hgm, rfl⟩ := List.mem_map.1 hxm
              exact h1 g hgm
            · exact hh x hxm
          · obtain ⟨r2, hr2, hw⟩ := putR_wp (u := undef) hr' (by intro x hx; cases hx; rfl) hw
            refine game_first (got := []) ho' hsel (fun c a w h => (hQ c _ w h).elim) f listed held a w hc hfree hmem (.inr ⟨hwant, rfl⟩) (by simp) hh ?_
            exact draw_sound hsel hap hin hQ hws hk f (hbits.set (hlt ho')) (hs.put (hws _ _ ho')) (hc.set hmem) hh hr2 hx hw
      · obtain ⟨_, hall⟩ := allOf_wp hw
        cases f with
        | zero =>
          have hw := hall _ (List.mem_map.2 ⟨i0, by simp, rfl⟩)
          split at hw
          · rename_i o ho
            have ho' : ops[i0]? = some o := by simpa using ho
            obtain ⟨r', hr', hg⟩ := guarded_wp hr hw
            rcases hg with ⟨_, hw⟩ | ⟨_, hw⟩
            · refine (Oper.wp_false (one_sound (K := fun _ _ => False) (Qc := fun _ _ _ => False) hr' (fun got r2 v w' _ _ hw' => ?_) hw)).elim
              exact (heldAll_wp hw').2
            · obtain ⟨_, _, hw⟩ := putR_wp (u := undef) hr' (by intro x hx; cases hx; rfl) hw
              exact hw.elim
          · exact hw.elim
        | succ f =>
          refine ⟨fun h0 => (by rw [hreq, hready] at h0; cases h0), fun i0 hmem => ?_⟩
          have hw := hall _ (List.mem_map.2 ⟨i0, (by rw [hreq, hready] at hmem; exact hmem), rfl⟩)
          split at hw
          · rename_i o ho
            have ho' : ops[i0]? = some o := by simpa using ho
            obtain ⟨r', hr', hg⟩ := guarded_wp hr hw
            unfold wpOp
            simp only [ho']
            rcases hg with ⟨hwant, hw⟩ | ⟨hwant, hw⟩
            · rw [if_pos hwant]
              refine .inl (one_sound hr' (fun got r2 v w' hx' hr2 hw' => ?_) hw)
              obtain ⟨h1, hw'⟩ := heldAll_wp hw'
              have hke : keep ops i0 held = held.filter fun x => !has (waitsM ops.toList o) x.1 := by simp [keep, ho']
              have h1' : heldOk (keep ops i0 held) w' := fun x hxm => h1 x.2 (List.mem_map.2 ⟨x, hke ▸ hxm, rfl⟩)
              refine ⟨h1', ?_⟩
              rw [hke] at h1' ⊢
              exact draw_sound hsel hap hin hQ hws hk f (hbits.set (hlt ho')) (hs.put (hws _ _ ho')) (hc.set hmem) h1' hr2 (hx.trans hx') hw'
            · rw [if_neg (by simp [hwant])]
              obtain ⟨r2, hr2, hw⟩ := putR_wp (u := undef) hr' (by intro x hx; cases hx; rfl) hw
              have h1' : heldOk (keep ops i0 held) w := fun x hxm => hh x (keep_sub x hxm)
              refine ⟨h1', game_mono _ _ _ _ _ _ keep_sub (draw_sound hsel hap hin hQ hws hk f (hbits.set (hlt ho')) (hs.put (hws _ _ ho')) (hc.set hmem) hh hr2 hx hw)⟩
          · exact hw.elim
end
end Go.Proofs.Ytegnpimlfphncaa
namespace Go.Proofs.Ytegnpimlfphncaa
open Go
def resOne (tmps : Array Value) : ResultVar → Sem Value
  | .tmp t => pure (tmps.getD t undef)
  | .cell a t => do loadVar t (← asAddr (tmps.getD a undef))
theorem lay_lay : ∀ (ts : List Nat) (vs : List AV) (r : Regs) (t : Nat) (x : AV), lay r ts vs t = some x → (∃ i : Nat, ts[i]? = some t ∧ vs[i]? = some x) ∨ r t = some x
  | [], _, r, t, x, h => .inr (by simpa [lay] using h)
  | _ :: _, [], r, t, x, h => .inr (by simpa [lay] using h)
  | u :: ts, v :: vs, r, t, x, h => by
    simp only [lay, upd] at h
    split at h
    · rename_i hb
      obtain rfl := Nat.eq_of_beq_eq_true hb
      exact .inl ⟨0, by simp, by simpa using h⟩
    · rcases lay_lay ts vs r t x h with ⟨i, h1, h2⟩ | h1
      · exact .inl ⟨i + 1, by simpa using h1, by simpa using h2⟩
      · exact .inr h1
theorem memN_iff {x : Nat} : ∀ {l : List Nat}, memN x l = true ↔ x ∈ l
  | [] => by simp [memN]
  | y :: l => by
    simp only [memN]
    split
    · rename_i hb
      obtain rfl := Nat.eq_of_beq_eq_true hb
      simp
    · rename_i hb
      have hne : x ≠ y := fun h => by subst h; rw [Nat.beq_refl] at hb; cases hb
      rw [memN_iff]; simp [hne]
section
variable {P : Program} {n : Nat} {r : Regs} {a : Act}
theorem outs_val (hr : Rel n r a) : ∀ {ts : List Nat} {vs : List AV}, outs r ts = some vs → ts.map (fun t => a.tmps.getD t undef) = vs.map AV.val
  | [], vs, h => by simp [outs] at h; subst h; rfl
  | t :: ts, vs, h => by
    simp only [outs] at h
    split at h
    · rename_i v vs' h1 h2
      simp at h; subst h
      simp only [List.map_cons, hr.val t v h1, outs_val hr h2]
    · cases h
theorem Rel.joint {r0 : Regs} {a0 : Act} (h0 : Rel n r0 a0) (hr : Rel n r a) {ws ts : List Nat} {vs us : List AV} (ho : outs r ts = some vs) (hu : us.map AV.val = vs.map AV.val)
    (hsame : ∀ t, t ∉ ws → a.tmps.getD t undef = a0.tmps.getD t undef) : Rel n (lay (forget r0 ws) ts us) a := by
  refine ⟨fun t x hx => ?_, hr.size, hr.defers⟩
  rcases lay_lay ts us _ t x hx with ⟨i, h1, h2⟩ | h1
  · have hv := outs_val hr ho
    rw [← hu] at hv
    have := congrArg (fun l => l[i]?) hv
    simp only [List.getElem?_map, h1, h2, Option.map_some, Option.some.injEq] at this
    exact this
  · simp only [forget] at h1
    split at h1
    · cases h1
    · rename_i hm
      have hnot : t ∉ ws := fun hh => by rw [memN_iff.2 hh] at hm; cases hm
      rw [hsame t hnot]
      exact h0.val t x h1
end
theorem jointOf_drop {id : Nat} : ∀ {J : Joints} {j : Nat} {x : List Nat × List Nat}, jointOf (dropJ id J) j = some x → j ≠ id ∧ jointOf J j = some x
  | [], j, x, h => by simp [dropJ, jointOf] at h
  | (i, y) :: J, j, x, h => by
    simp only [dropJ] at h
    split at h
    · rename_i hb
      obtain rfl := Nat.eq_of_beq_eq_true hb
      obtain ⟨h1, h2⟩ := jointOf_drop h
      refine ⟨h1, ?_⟩
      have hf : Nat.beq i j = false := by
        cases hq : Nat.beq i j with
        | false => rfl
        | true => exact absurd (Nat.eq_of_beq_eq_true hq).symm h1
      simp only [jointOf, hf]
      exact h2
    · rename_i hb
      simp only [jointOf] at h ⊢
      split at h
      · rename_i hq
        obtain rfl := Nat.eq_of_beq_eq_true hq
        refine ⟨fun h' => ?_, by simpa [Nat.beq_refl] using h⟩
        subst h'
        rw [Nat.beq_refl] at hb
        cases hb
      · rename_i hq
        obtain ⟨h1, h2⟩ := jointOf_drop h
        exact ⟨h1, h2⟩
def RetOk (P : Program) (rs : List ResultVar) (a : Act) (w : World) (vs : List AV) : Prop := (rs.mapM (resOne a.tmps)).run P w = .ok (vs.map AV.val) w
theorem ret_sound {P : Program} {n : Nat} {r : Regs} {a : Act} {QM : Ex → List AV → H → Prop} {w : World} (hr : Rel n r a) : ∀ {rs : List ResultVar} {k : List AV → M}, wp P (retLoads P r rs k) QM w.heap →
    ∃ vs, RetOk P rs a w vs ∧ wp P (k vs) QM w.heap
  | [], k, hw => ⟨[], by simp [RetOk], hw⟩
  | .tmp t :: rs, k, hw => by
    simp only [retLoads] at hw
    split at hw
    · rename_i v hv
      obtain ⟨vs, h1, hw⟩ := ret_sound hr hw
      refine ⟨v :: vs, ?_, hw⟩
      have e : (resOne a.tmps (.tmp t)).run P w = .ok v.val w := by
        show Result.ok (a.tmps.getD t undef) w = _
        rw [hr.val t v hv]
      simp only [RetOk, List.mapM_cons, Sem.run_bind, e, Result.andThen_ok] at h1 ⊢
      rw [h1]
      rfl
    · exact hw.elim
  | .cell x t :: rs, k, hw => by
    simp only [retLoads] at hw
    let o : Oper := { dst := none, op := .load t (.tmp x), type := 0, pos := "", after := #[], guard := none }
    obtain ⟨p, v, h1, h2, hw⟩ := load_sound (o := o) rfl hr hw
    obtain ⟨vs, h3, hw⟩ := ret_sound hr hw
    refine ⟨v :: vs, ?_, hw⟩
    have e := h2 w h1
    have e2 : (resOne a.tmps (.cell x t)).run P w = .ok v.val w := by
      have e : ((Instr.loadAt t (a.tmps.getD x undef)) >>= fun v => (pure (Next.value v) : Sem Next)).run P w = .ok (.value v.val) w := e
      simp only [resOne, Instr.loadAt, Sem.run_bind] at e ⊢
      cases hq : a.tmps.getD x undef with
      | pointer ad =>
        rw [hq] at e
        cases ad with
        | none => simp [Instr.sureAddr, stuck] at e
        | some ad =>
          simp only [Instr.sureAddr, asAddr, Sem.run_pure, Result.andThen_ok] at e ⊢
          cases hl : (loadVar t ad).run P w with
          | ok u w' => rw [hl] at e; simp at e; obtain ⟨rfl, rfl⟩ := e; rfl
          | halt u w' => rw [hl] at e; simp at e
      | _ => rw [hq] at e; simp [Instr.sureAddr, stuck] at e
    simp only [RetOk, List.mapM_cons, Sem.run_bind, e2, Result.andThen_ok] at h3 ⊢
    rw [h3]
    rfl
def OnlyNormal (Q : Exit → Act → World → Prop) : Exit → Act → World → Prop
  | .normal, a, w => Q .normal a w
  | _, _, _ => False
theorem region_sound {P : Program} (hm : P.follows .mixedOrders = true) {n id : Nat} {ops : Array Oper} {draw : Bool} {r : Regs} {k : Regs → M} {a : Act} {w w0 : World} {QM : Ex → List AV → H → Prop} {Qc : Exit → Act → World → Prop}
    (hr : Rel n r a) (hx : Ext w0 w) (hw : wp P (runR P n ops draw r k) QM w.heap)
    (hk : ∀ r' a' w', Rel n r' a' → Ext w0 w' → Same (ops.toList.filterMap (·.dst)) a a' → wp P (k r') QM w'.heap → Qc .normal a' w') : (Code.region id ops draw).wp P Qc a w := by
  unfold runR at hw
  split at hw
  · refine wp_region_list (seq_sound (ws := ops.toList.filterMap (·.dst)) (a0 := a) ops.toList (fun o ho d hd => List.mem_filterMap.2 ⟨o, ho, hd⟩) (Same.refl _ _) hr hx hk hw)
  · split at hw
    · rename_i hs
      simp only [Bool.and_eq_true] at hs
      obtain ⟨hs, hap, hins⟩ := hs
      refine Code.wp_mono (Q := OnlyNormal Qc) (fun e a w h => by cases e <;> first | exact h | exact h.elim) ?_
      refine wp_region_any hm (any_of_game _ _ [] _ _ ?_)
      refine draw_sound (Q := OnlyNormal Qc) (n := n) (QM := QM) (w0 := w0) (ws := ops.toList.filterMap (·.dst)) (a0 := a) (k := k) (done := 0) (Region.noSelect_spec hs) hap ?_ (fun _ _ _ h => h)
        (fun j o ho d hd => List.mem_filterMap.2 ⟨o, List.mem_of_getElem? (by simpa using ho), hd⟩) (fun r' a' w' h1 h2 h3 h4 => hk r' a' w' h1 h2 h3 h4) ops.size ?_ (Same.refl _ _) ?_ (by intro x hx; cases hx) hr (w := { w with drawn := w.drawn + 1 }) (hx.trans ⟨rfl, rfl, rfl⟩) hw
      · intro j o ho e he _
        simp only [insideAll, List.all_eq_true] at hins
        have := hins o (List.mem_of_getElem? (by simpa using ho)) e (by simpa using he)
        exact Nat.le_of_ble_eq_true this
      · exact ⟨by simp, fun i hi => by rw [has_zero]; simp [hi]⟩
      · intro j hj
        exfalso
        rcases Nat.lt_or_ge j ops.size with h | h
        · simp [h] at hj
        · simp [h] at hj
    · exact hw.elim
def exO (i : Nat) : Exit := match Nat.ble 1000 i with | true => .goto (i - 1000) | false => .exit i
theorem exO_lo {i : Nat} (h : Nat.ble 1000 i = false) : exO i = .exit i := by unfold exO; rw [h]
theorem exO_gj (l : Nat) : exO (gj l) = .goto l := by
  have h : Nat.ble 1000 (gj l) = true := Nat.ble_eq_true_of_le (Nat.le_add_left _ _)
  have e : gj l - 1000 = l := by unfold gj; omega
  unfold exO
  split
  · rw [e]
  · rename_i h2
    rw [h] at h2; cases h2
theorem exO_cases (i : Nat) : (Nat.ble 1000 i = false ∧ exO i = .exit i) ∨ (Nat.ble 1000 i = true ∧ exO i = .goto (i - 1000)) := by
  unfold exO
  cases h : Nat.ble 1000 i with
  | true => exact .inr ⟨rfl, rfl⟩
  | false => exact .inl ⟨rfl, rfl⟩
theorem then_exO {N : Act → World → Prop} {Q : Exit → Act → World → Prop} {i : Nat} {a : Act} {w : World} (h : Q (exO i) a w) : Exit.then N Q (exO i) a w := by
  rcases exO_cases i with ⟨_, e⟩ | ⟨_, e⟩ <;> rw [e] at h ⊢ <;> exact h
theorem block_exO {Q : Exit → Act → World → Prop} {id i : Nat} {a : Act} {w : World} (hi : i ≠ id) (h : Q (exO i) a w) : Exit.inBlock id Q (exO i) a w := by
  rcases exO_cases i with ⟨_, e⟩ | ⟨_, e⟩ <;> rw [e] at h ⊢
  · show (if i = id then Q .normal a w else Q (.exit i) a w)
    rw [if_neg hi]; exact h
  · exact h
theorem jointOf_offG {c : Code} : ∀ {J : Joints} {j : Nat} {x : List Nat × List Nat}, jointOf (offG c J) j = some x → (Nat.ble 1000 j = true → findLabel c (j - 1000) = none) ∧ jointOf J j = some x
  | [], j, x, h => by simp [offG, jointOf] at h
  | (i, y) :: J, j, x, h => by
    simp only [offG] at h
    split at h
    · rename_i hb
      obtain ⟨h1, h2⟩ := jointOf_offG h
      refine ⟨h1, ?_⟩
      have hf : Nat.beq i j = false := by
        cases hq : Nat.beq i j with
        | false => rfl
        | true =>
          obtain rfl := Nat.eq_of_beq_eq_true hq
          simp only [Bool.and_eq_true] at hb
          rw [h1 hb.1] at hb
          exact absurd hb.2 (by simp)
      simp only [jointOf, hf]
      exact h2
    · rename_i hb
      simp only [jointOf] at h ⊢
      split at h
      · rename_i hq
        obtain rfl := Nat.eq_of_beq_eq_true hq
        refine ⟨fun h1 => ?_, by simpa [Nat.beq_refl] using h⟩
        rw [h1, Bool.true_and] at hb
        exact Option.not_isSome_iff_eq_none.1 (by rw [hb]; simp)
      · exact jointOf_offG h
def Rounds (P : Program) (ss : List Sh) (B : SV ss → M) (Q : Ex → List AV → H → Prop) (I : SV ss → H → Prop) (μ : SV ss → H → Nat) : Prop :=
  ∀ x h1, I x h1 → wp P (B x) (fun e vs h' => match e with
    | .normal => ∃ y, (SV.list ss y).map AV.val = vs.map AV.val ∧ I y h' ∧ μ y h' < μ x h1
    | _ => Q e vs h') h1
def scpQ (c : Code) (Q : Exit → Act → World → Prop) : Exit → Act → World → Prop
  | .goto l, a, w => findLabel c l = none ∧ Q (.goto l) a w
  | e, a, w => Q e a w
def scjQ (c : Code) (l : Nat) (J : Act → World → Prop) (Q : Exit → Act → World → Prop) : Exit → Act → World → Prop
  | .goto l', a, w => (l' = l ∧ J a w) ∨ (findLabel c l' = none ∧ Q (.goto l') a w)
  | e, a, w => Q e a w
theorem scp_exO {c : Code} {Q : Exit → Act → World → Prop} {i : Nat} {a : Act} {w : World} (h1 : Nat.ble 1000 i = true → findLabel c (i - 1000) = none) (h : Q (exO i) a w) : scpQ c Q (exO i) a w := by
  rcases exO_cases i with ⟨_, e⟩ | ⟨hb, e⟩ <;> rw [e] at h ⊢
  · exact h
  · exact ⟨h1 hb, h⟩
theorem scj_exO {c : Code} {l : Nat} {J : Act → World → Prop} {Q : Exit → Act → World → Prop} {i : Nat} {a : Act} {w : World} (h1 : Nat.ble 1000 i = true → findLabel c (i - 1000) = none) (h : Q (exO i) a w) : scjQ c l J Q (exO i) a w := by
  rcases exO_cases i with ⟨_, e⟩ | ⟨hb, e⟩ <;> rw [e] at h ⊢
  · exact h
  · exact .inr ⟨h1 hb, h⟩
section
variable {P : Program} {a : Act} {w : World} {Q : Exit → Act → World → Prop}
theorem goto_out {c : Code} {l : Nat} (h : findLabel c l = none) {k k' : List Item} (hk : gotoIn l k = some k') : gotoIn l (.inScope c :: k) = some k' := by simp [gotoIn, h, hk]
theorem wp_scope_out {c : Code} (h : c.wp P (scpQ c Q) a w) : (Code.scope c).wp P Q a w := by
  intro b k cs
  obtain ⟨e, a₁, w₁, hq, harr⟩ := h b (.inScope c :: k) cs
  cases e with
  | normal => exact ⟨.normal, a₁, w₁, hq, .head step_scope (Steps.trans harr (.one step_inScope))⟩
  | exit id => exact ⟨.exit id, a₁, w₁, hq, fun k' hk => .head step_scope (harr k' (by simp [exitTo, hk]))⟩
  | goto l => exact ⟨.goto l, a₁, w₁, hq.2, fun k' hk => .head step_scope (harr k' (goto_out hq.1 hk))⟩
  | ret => exact ⟨_, a₁, w₁, hq, .of_steps (.one step_scope) harr⟩
  | panic ch => exact ⟨_, a₁, w₁, hq, .of_steps (.one step_scope) harr⟩
  | outgrown => exact ⟨_, a₁, w₁, hq, .of_steps (.one step_scope) harr⟩
theorem wp_scope_back {c rest : Code} (l : Nat) (J : Nat → Act → World → Prop) (hf : findLabel c l = some rest) (first : c.wp P (scjQ c l (fun a w => ∃ n, J n a w) Q) a w)
    (pass : ∀ n a w, J n a w → rest.wp P (scjQ c l (fun a w => ∃ m, m < n ∧ J m a w) Q) a w) : (Code.scope c).wp P Q a w := by
  intro b k cs
  have hg : gotoIn l (.inScope c :: k) = some (.code rest :: .inScope c :: k) := by simp [gotoIn, hf]
  have again : ∀ n a w, J n a w → ∃ e a' w', Q e a' w' ∧ Arrives P (lone (b.at a (.code rest :: .inScope c :: k)) cs w) b k cs e a' w' := by
    intro n
    induction n using Nat.strongRecOn with
    | _ n ih =>
      intro a w hJ
      obtain ⟨e, a₁, w₁, hq, harr⟩ := pass n a w hJ b (.inScope c :: k) cs
      cases e with
      | normal => exact ⟨.normal, a₁, w₁, hq, Steps.trans harr (.one step_inScope)⟩
      | exit id => exact ⟨.exit id, a₁, w₁, hq, fun k' hk => harr k' (by simp [exitTo, hk])⟩
      | goto l' =>
        rcases hq with ⟨rfl, m, hm, hJ'⟩ | ⟨h1, h2⟩
        · obtain ⟨e₂, a₂, w₂, hq₂, harr₂⟩ := ih m hm a₁ w₁ hJ'
          exact ⟨e₂, a₂, w₂, hq₂, .of_steps (harr _ hg) harr₂⟩
        · exact ⟨.goto l', a₁, w₁, h2, fun k' hk => harr k' (goto_out h1 hk)⟩
      | ret => exact ⟨_, a₁, w₁, hq, harr⟩
      | panic ch => exact ⟨_, a₁, w₁, hq, harr⟩
      | outgrown => exact ⟨_, a₁, w₁, hq, harr⟩
  obtain ⟨e, a₁, w₁, hq, harr⟩ := first b (.inScope c :: k) cs
  cases e with
  | normal => exact ⟨.normal, a₁, w₁, hq, .head step_scope (Steps.trans harr (.one step_inScope))⟩
  | exit id => exact ⟨.exit id, a₁, w₁, hq, fun k' hk => .head step_scope (harr k' (by simp [exitTo, hk]))⟩
  | goto l' =>
    rcases hq with ⟨rfl, n, hJ'⟩ | ⟨h1, h2⟩
    · obtain ⟨e₂, a₂, w₂, hq₂, harr₂⟩ := again n a₁ w₁ hJ'
      exact ⟨e₂, a₂, w₂, hq₂, .of_steps (.head step_scope (harr _ hg)) harr₂⟩
    · exact ⟨.goto l', a₁, w₁, h2, fun k' hk => .head step_scope (harr k' (goto_out h1 hk))⟩
  | ret => exact ⟨_, a₁, w₁, hq, .of_steps (.one step_scope) harr⟩
  | panic ch => exact ⟨_, a₁, w₁, hq, .of_steps (.one step_scope) harr⟩
  | outgrown => exact ⟨_, a₁, w₁, hq, .of_steps (.one step_scope) harr⟩
end
def DenOK (P : Program) (fn : Func) (body c : Code) : Prop := ∀ {r : Regs} {J : Joints} {after : List Nat} {k : Regs → M} {QM : Ex → List AV → H → Prop}
    {Qc : Exit → Act → World → Prop} {a : Act} {w w0 : World}, Rel fn.ntmps r a → Ext w0 w → wp P (den P fn body c .all r J after k) QM w.heap →
    (∀ r' a' w', Rel fn.ntmps r' a' → Ext w0 w' → Same (writesC c) a a' → wp P (k r') QM w'.heap → Qc .normal a' w') →
    (∀ id x vs r' a' w', jointOf J id = some x → outs r' x.1 = some vs → Rel fn.ntmps r' a' → Ext w0 w' → Same (writesC c) a a' → QM (.exit id) vs w'.heap → Qc (exO id) a' w') →
    (∀ vs a' w', a'.defers = [] → Ext w0 w' → RetOk P fn.results.toList a' w' vs → QM .ret vs w'.heap → Qc .ret a' w') → c.wp P Qc a w
theorem rest_sound {P : Program} {fn : Func} {body : Code} : ∀ (c : Code) (_ : ∀ c' : Code, SizeOf.sizeOf c' < SizeOf.sizeOf c → DenOK P fn body c') {l : Nat} {rest : Code} {r : Regs} {J : Joints} {after : List Nat} {k : Regs → M} {QM : Ex → List AV → H → Prop}
    {Qc : Exit → Act → World → Prop} {a : Act} {w w0 : World}, findLabel c l = some rest → Rel fn.ntmps r a → Ext w0 w → wp P (den P fn body c (.rest l) r J after k) QM w.heap →
    (∀ r' a' w', Rel fn.ntmps r' a' → Ext w0 w' → Same (writesC c) a a' → wp P (k r') QM w'.heap → Qc .normal a' w') →
    (∀ id x vs r' a' w', jointOf J id = some x → outs r' x.1 = some vs → Rel fn.ntmps r' a' → Ext w0 w' → Same (writesC c) a a' → QM (.exit id) vs w'.heap → Qc (exO id) a' w') →
    (∀ vs a' w', a'.defers = [] → Ext w0 w' → RetOk P fn.results.toList a' w' vs → QM .ret vs w'.heap → Qc .ret a' w') → rest.wp P Qc a w
  | .seq x y, IH, l, rest, r, J, after, k, QM, Qc, a, w, w0, hf, hr, hx, hw, hk, he, hret => by
    simp only [findLabel] at hf
    simp only [den] at hw
    split at hf
    · rename_i rx hfx
      obtain rfl := Option.some.inj hf
      rw [hfx] at hw
      refine wp_seq (rest_sound x (fun c' h => IH c' (by simp; omega)) hfx hr hx hw (fun r' a' w' hr' hx' hs hw' => ?_) (fun id z vs r' a' w' h1 h2 h3 h4 h5 h6 => ?_) (fun vs a' w' h1 h2 h3 h4 => hret vs a' w' h1 h2 h3 h4))
      · exact IH y (by simp; omega) hr' hx' hw' (fun r2 a2 w2 g1 g2 g3 g4 => hk r2 a2 w2 g1 g2 (hs.trans g3) g4) (fun id z vs r2 a2 w2 h1 h2 h3 h4 h5 h6 => he id z vs r2 a2 w2 h1 h2 h3 h4 (hs.trans h5) h6) hret
      · exact then_exO (he id z vs r' a' w' h1 h2 h3 h4 (h5.mono (fun t ht => List.mem_append.2 (.inl ht))) h6)
    · rename_i hfx
      rw [hfx] at hw
      exact rest_sound y (fun c' h => IH c' (by simp; omega)) hf hr hx hw (fun r2 a2 w2 g1 g2 g3 g4 => hk r2 a2 w2 g1 g2 (g3.mono (fun t ht => List.mem_append.2 (.inr ht))) g4) (fun id z vs r2 a2 w2 h1 h2 h3 h4 h5 h6 => he id z vs r2 a2 w2 h1 h2 h3 h4 (h5.mono (fun t ht => List.mem_append.2 (.inr ht))) h6) hret
  | .label l', _, l, rest, r, J, after, k, QM, Qc, a, w, w0, hf, hr, hx, hw, hk, _, _ => by
    simp only [findLabel] at hf
    split at hf
    · rename_i hl
      obtain rfl := Option.some.inj hf
      simp only [den, hl] at hw
      exact wp_skip (hk r a w hr hx (Same.refl _ _) hw)
    · cases hf
  | .skip, _, _, _, _, _, _, _, _, _, _, _, _, hf, _, _, _, _, _, _ => by simp [findLabel] at hf
  | .region _ _ _, _, _, _, _, _, _, _, _, _, _, _, _, hf, _, _, _, _, _, _ => by simp [findLabel] at hf
  | .cond _ _ _, _, _, _, _, _, _, _, _, _, _, _, _, hf, _, _, _, _, _, _ => by simp [findLabel] at hf
  | .block _ _, _, _, _, _, _, _, _, _, _, _, _, _, hf, _, _, _, _, _, _ => by simp [findLabel] at hf
  | .loop _, _, _, _, _, _, _, _, _, _, _, _, _, hf, _, _, _, _, _, _ => by simp [findLabel] at hf
  | .rangeFunc _ _ _ _, _, _, _, _, _, _, _, _, _, _, _, _, hf, _, _, _, _, _, _ => by simp [findLabel] at hf
  | .exit _, _, _, _, _, _, _, _, _, _, _, _, _, hf, _, _, _, _, _, _ => by simp [findLabel] at hf
  | .scope _, _, _, _, _, _, _, _, _, _, _, _, _, hf, _, _, _, _, _, _ => by simp [findLabel] at hf
  | .goto _, _, _, _, _, _, _, _, _, _, _, _, _, hf, _, _, _, _, _, _ => by simp [findLabel] at hf
  | .ret, _, _, _, _, _, _, _, _, _, _, _, _, hf, _, _, _, _, _, _ => by simp [findLabel] at hf
  | .refuse _, _, _, _, _, _, _, _, _, _, _, _, _, hf, _, _, _, _, _, _ => by simp [findLabel] at hf
theorem pre_sound {P : Program} {fn : Func} {body : Code} : ∀ (c : Code) (_ : ∀ c' : Code, SizeOf.sizeOf c' < SizeOf.sizeOf c → DenOK P fn body c') {l : Nat} {rest : Code} {r : Regs} {J J0 : Joints} {after after2 : List Nat} {k1 k : Regs → M} {Q1 QM : Ex → List AV → H → Prop}
    {Qc : Exit → Act → World → Prop} {a : Act} {w w0 : World}, findLabel c l = some rest → Rel fn.ntmps r a → Ext w0 w → wp P (den P fn body c (.pre l) r J after k1) Q1 w.heap →
    (∀ r' a' w', Rel fn.ntmps r' a' → Ext w0 w' → Same (writesC c) a a' → wp P (k1 r') Q1 w'.heap → ∃ r2, Rel fn.ntmps r2 a' ∧ wp P (den P fn body c (.rest l) r2 J0 after2 k) QM w'.heap) →
    (∀ r' a' w', Rel fn.ntmps r' a' → Ext w0 w' → Same (writesC c) a a' → wp P (k r') QM w'.heap → Qc .normal a' w') →
    (∀ id x vs r' a' w', jointOf J id = some x → outs r' x.1 = some vs → Rel fn.ntmps r' a' → Ext w0 w' → Same (writesC c) a a' → Q1 (.exit id) vs w'.heap → Qc (exO id) a' w') →
    (∀ id x vs r' a' w', jointOf J0 id = some x → outs r' x.1 = some vs → Rel fn.ntmps r' a' → Ext w0 w' → Same (writesC c) a a' → QM (.exit id) vs w'.heap → Qc (exO id) a' w') →
    (∀ vs a' w', a'.defers = [] → Ext w0 w' → RetOk P fn.results.toList a' w' vs → Q1 .ret vs w'.heap → Qc .ret a' w') →
    (∀ vs a' w', a'.defers = [] → Ext w0 w' → RetOk P fn.results.toList a' w' vs → QM .ret vs w'.heap → Qc .ret a' w') → c.wp P Qc a w
  | .seq x y, IH, l, rest, r, J, J0, after, after2, k1, k, Q1, QM, Qc, a, w, w0, hf, hr, hx, hw, ht, hk, he1, he, hret1, hret => by
    have sx : ∀ {a'}, Same (writesC x) a a' → Same (writesC (.seq x y)) a a' := fun h => h.mono (fun t ht => List.mem_append.2 (.inl ht))
    simp only [findLabel] at hf
    simp only [den] at hw
    split at hf
    · rename_i rx hfx
      rw [hfx] at hw
      refine wp_seq (pre_sound x (fun c' h => IH c' (by simp; omega)) (k := fun r => den P fn body y .all r J0 after2 k) (J0 := J0) (after2 := liveIn (resSlots fn.results.toList) y J0 after2) hfx hr hx hw (fun r' a' w' hr' hx' hs hw' => ?_) (fun r' a' w' hr' hx' hs hw' => ?_) (fun id z vs r' a' w' h1 h2 h3 h4 h5 h6 => then_exO (he1 id z vs r' a' w' h1 h2 h3 h4 (sx h5) h6))
        (fun id z vs r' a' w' h1 h2 h3 h4 h5 h6 => then_exO (he id z vs r' a' w' h1 h2 h3 h4 (sx h5) h6)) (fun vs a' w' h1 h2 h3 h4 => hret1 vs a' w' h1 h2 h3 h4) (fun vs a' w' h1 h2 h3 h4 => hret vs a' w' h1 h2 h3 h4))
      · obtain ⟨r2, g1, g2⟩ := ht r' a' w' hr' hx' (sx hs) hw'
        simp only [den, hfx] at g2
        exact ⟨r2, g1, g2⟩
      · exact IH y (by simp; omega) hr' hx' hw' (fun r2 a2 w2 g1 g2 g3 g4 => hk r2 a2 w2 g1 g2 (hs.trans g3) g4) (fun id z vs r2 a2 w2 h1 h2 h3 h4 h5 h6 => he id z vs r2 a2 w2 h1 h2 h3 h4 (hs.trans h5) h6) hret
    · rename_i hfx
      rw [hfx] at hw
      refine wp_seq (IH x (by simp; omega) hr hx hw (fun r' a' w' hr' hx' hs hw' => ?_) (fun id z vs r' a' w' h1 h2 h3 h4 h5 h6 => then_exO (he1 id z vs r' a' w' h1 h2 h3 h4 (sx h5) h6)) (fun vs a' w' h1 h2 h3 h4 => hret1 vs a' w' h1 h2 h3 h4))
      refine pre_sound y (fun c' h => IH c' (by simp; omega)) (k := k) (J0 := J0) (after2 := after2) hf hr' hx' hw' (fun r2 a2 w2 g1 g2 g3 g4 => ?_) (fun r2 a2 w2 g1 g2 g3 g4 => hk r2 a2 w2 g1 g2 (hs.trans g3) g4) (fun id z vs r2 a2 w2 h1 h2 h3 h4 h5 h6 => he1 id z vs r2 a2 w2 h1 h2 h3 h4 (hs.trans h5) h6)
        (fun id z vs r2 a2 w2 h1 h2 h3 h4 h5 h6 => he id z vs r2 a2 w2 h1 h2 h3 h4 (hs.trans h5) h6) hret1 hret
      obtain ⟨r3, q1, q2⟩ := ht r2 a2 w2 g1 g2 (hs.trans g3) g4
      simp only [den, hfx] at q2
      exact ⟨r3, q1, q2⟩
  | .label l', _, l, rest, r, J, J0, after, after2, k1, k, Q1, QM, Qc, a, w, w0, hf, hr, hx, hw, ht, hk, _, _, _, _ => by
    simp only [findLabel] at hf
    split at hf
    · rename_i hl
      simp only [den, hl] at hw
      obtain ⟨r2, g1, g2⟩ := ht r a w hr hx (Same.refl _ _) hw
      simp only [den, hl] at g2
      exact wp_label (hk r2 a w g1 hx (Same.refl _ _) g2)
    · cases hf
  | .skip, _, _, _, _, _, _, _, _, _, _, _, _, _, _, _, _, hf, _, _, _, _, _, _, _, _, _ => by simp [findLabel] at hf
  | .region _ _ _, _, _, _, _, _, _, _, _, _, _, _, _, _, _, _, _, hf, _, _, _, _, _, _, _, _, _ => by simp [findLabel] at hf
  | .cond _ _ _, _, _, _, _, _, _, _, _, _, _, _, _, _, _, _, _, hf, _, _, _, _, _, _, _, _, _ => by simp [findLabel] at hf
  | .block _ _, _, _, _, _, _, _, _, _, _, _, _, _, _, _, _, _, hf, _, _, _, _, _, _, _, _, _ => by simp [findLabel] at hf
  | .loop _, _, _, _, _, _, _, _, _, _, _, _, _, _, _, _, _, hf, _, _, _, _, _, _, _, _, _ => by simp [findLabel] at hf
  | .rangeFunc _ _ _ _, _, _, _, _, _, _, _, _, _, _, _, _, _, _, _, _, hf, _, _, _, _, _, _, _, _, _ => by simp [findLabel] at hf
  | .exit _, _, _, _, _, _, _, _, _, _, _, _, _, _, _, _, _, hf, _, _, _, _, _, _, _, _, _ => by simp [findLabel] at hf
  | .scope _, _, _, _, _, _, _, _, _, _, _, _, _, _, _, _, _, hf, _, _, _, _, _, _, _, _, _ => by simp [findLabel] at hf
  | .goto _, _, _, _, _, _, _, _, _, _, _, _, _, _, _, _, _, hf, _, _, _, _, _, _, _, _, _ => by simp [findLabel] at hf
  | .ret, _, _, _, _, _, _, _, _, _, _, _, _, _, _, _, _, hf, _, _, _, _, _, _, _, _, _ => by simp [findLabel] at hf
  | .refuse _, _, _, _, _, _, _, _, _, _, _, _, _, _, _, _, _, hf, _, _, _, _, _, _, _, _, _ => by simp [findLabel] at hf
theorem den_sound {P : Program} (hm : P.follows .mixedOrders = true) {fn : Func} {body : Code} : ∀ (c : Code) {r : Regs} {J : Joints} {after : List Nat} {k : Regs → M} {QM : Ex → List AV → H → Prop}
    {Qc : Exit → Act → World → Prop} {a : Act} {w w0 : World}, Rel fn.ntmps r a → Ext w0 w → wp P (den P fn body c .all r J after k) QM w.heap →
    (∀ r' a' w', Rel fn.ntmps r' a' → Ext w0 w' → Same (writesC c) a a' → wp P (k r') QM w'.heap → Qc .normal a' w') →
    (∀ id x vs r' a' w', jointOf J id = some x → outs r' x.1 = some vs → Rel fn.ntmps r' a' → Ext w0 w' → Same (writesC c) a a' → QM (.exit id) vs w'.heap → Qc (exO id) a' w') →
    (∀ vs a' w', a'.defers = [] → Ext w0 w' → RetOk P fn.results.toList a' w' vs → QM .ret vs w'.heap → Qc .ret a' w') → c.wp P Qc a w
  | .skip, r, J, after, k, QM, Qc, a, w, w0, hr, hx, hw, hk, _, _ => wp_skip (hk r a w hr hx (Same.refl _ _) hw)
  | .label _, r, J, after, k, QM, Qc, a, w, w0, hr, hx, hw, hk, _, _ => wp_label (hk r a w hr hx (Same.refl _ _) hw)
  | .region id ops draw, r, J, after, k, QM, Qc, a, w, w0, hr, hx, hw, hk, _, _ => by
    simp only [den] at hw
    split at hw
    · exact region_sound hm hr hx hw hk
    · split at hw
      · rename_i ss hss
        simp only [wp] at hw
        refine region_sound hm hr hx hw (fun r' a' w' hr' hx' hs hw' => ?_)
        split at hw'
        · rename_i vs hvs
          obtain ⟨x, hxv, hw'⟩ := hw'
          exact hk _ a' w' (Rel.joint hr hr' hvs hxv hs) hx' hs hw'
        · exact hw'.elim
      · exact hw.elim
  | .seq x y, r, J, after, k, QM, Qc, a, w, w0, hr, hx, hw, hk, he, hret => by
    refine wp_seq (den_sound hm x hr hx hw (fun r' a' w' hr' hx' hs hw' => ?_) (fun id z vs r' a' w' h1 h2 h3 h4 h5 h6 => ?_) (fun vs a' w' h1 h2 h3 h4 => hret vs a' w' h1 h2 h3 h4))
    · exact den_sound hm y hr' hx' hw' (fun r2 a2 w2 g1 g2 g3 g4 => hk r2 a2 w2 g1 g2 (hs.trans g3) g4) (fun id z vs r2 a2 w2 h1 h2 h3 h4 h5 h6 => he id z vs r2 a2 w2 h1 h2 h3 h4 (hs.trans h5) h6) hret
    · exact then_exO (he id z vs r' a' w' h1 h2 h3 h4 (h5.mono (fun t ht => List.mem_append.2 (.inl ht))) h6)
  | .cond c x y, r, J, after, k, QM, Qc, a, w, w0, hr, hx, hw, hk, he, hret => by
    have sx : ∀ {a'}, Same (writesC x) a a' → Same (writesC (.cond c x y)) a a' := fun h => h.mono (fun t ht => List.mem_append.2 (.inl ht))
    have sy : ∀ {a'}, Same (writesC y) a a' → Same (writesC (.cond c x y)) a a' := fun h => h.mono (fun t ht => List.mem_append.2 (.inr ht))
    obtain ⟨v, hv, hw⟩ := ev_wp hw
    have hc := hr.eval hv
    split at hw
    · exact wp_cond_true hc (den_sound hm x hr hx hw (fun r2 a2 w2 g1 g2 g3 g4 => hk r2 a2 w2 g1 g2 (sx g3) g4) (fun id z vs r2 a2 w2 h1 h2 h3 h4 h5 h6 => he id z vs r2 a2 w2 h1 h2 h3 h4 (sx h5) h6) hret)
    · exact wp_cond_false hc (den_sound hm y hr hx hw (fun r2 a2 w2 g1 g2 g3 g4 => hk r2 a2 w2 g1 g2 (sy g3) g4) (fun id z vs r2 a2 w2 h1 h2 h3 h4 h5 h6 => he id z vs r2 a2 w2 h1 h2 h3 h4 (sy h5) h6) hret)
    · rename_i t
      split at hw
      · refine wp_cond_split hc (fun ht => ?_) (fun ht => ?_)
        · exact den_sound hm x hr hx (hw.1 ht) (fun r2 a2 w2 g1 g2 g3 g4 => hk r2 a2 w2 g1 g2 (sx g3) g4) (fun id z vs r2 a2 w2 h1 h2 h3 h4 h5 h6 => he id z vs r2 a2 w2 h1 h2 h3 h4 (sx h5) h6) hret
        · exact den_sound hm y hr hx (hw.2 ht) (fun r2 a2 w2 g1 g2 g3 g4 => hk r2 a2 w2 g1 g2 (sy g3) g4) (fun id z vs r2 a2 w2 h1 h2 h3 h4 h5 h6 => he id z vs r2 a2 w2 h1 h2 h3 h4 (sy h5) h6) hret
      · dsimp only at hw
        split at hw
        · rename_i ss hss
          simp only [wp] at hw
          refine wp_cond_split hc (fun ht => ?_) (fun ht => ?_)
          · refine den_sound hm x hr hx (hw.1 ht) (fun r' a' w' hr' hx' hs hw' => ?_) (fun id z vs r2 a2 w2 h1 h2 h3 h4 h5 h6 => he id z vs r2 a2 w2 h1 h2 h3 h4 (sx h5) h6) hret
            split at hw'
            · rename_i vs hvs
              obtain ⟨u, hu, hw'⟩ := hw'
              exact hk _ a' w' (Rel.joint hr hr' hvs hu (sx hs)) hx' (sx hs) hw'
            · exact hw'.elim
          · refine den_sound hm y hr hx (hw.2 ht) (fun r' a' w' hr' hx' hs hw' => ?_) (fun id z vs r2 a2 w2 h1 h2 h3 h4 h5 h6 => he id z vs r2 a2 w2 h1 h2 h3 h4 (sy h5) h6) hret
            split at hw'
            · rename_i vs hvs
              obtain ⟨u, hu, hw'⟩ := hw'
              exact hk _ a' w' (Rel.joint hr hr' hvs hu (sy hs)) hx' (sy hs) hw'
            · exact hw'.elim
        · exact hw.elim
    · exact hw.elim
  | .block id x, r, J, after, k, QM, Qc, a, w, w0, hr, hx, hw, hk, he, hret => by
    simp only [den] at hw
    split at hw
    · exact hw.elim
    · rename_i hlo
      split at hw
      · refine wp_block (den_sound hm x hr hx hw hk (fun i z vs r2 a2 w2 h1 h2 h3 h4 h5 h6 => ?_) hret)
        obtain ⟨g1, g2⟩ := jointOf_drop h1
        exact block_exO g1 (he i z vs r2 a2 w2 g2 h2 h3 h4 h5 h6)
      · split at hw
        · rename_i ss hss
          simp only [wp] at hw
          refine wp_block (den_sound hm x hr hx hw (fun r' a' w' hr' hx' hs hw' => ?_) (fun i z vs r2 a2 w2 h1 h2 h3 h4 h5 h6 => ?_) (fun vs a' w' h1 h2 h3 h4 => hret vs a' w' h1 h2 h3 h4))
          · split at hw'
            · rename_i vs hvs
              obtain ⟨u, hu, hw'⟩ := hw'
              exact hk _ a' w' (Rel.joint hr hr' hvs hu hs) hx' hs hw'
            · exact hw'.elim
          · by_cases hi : i = id
            · subst hi
              rw [exO_lo hlo]
              show (if i = i then Qc .normal a2 w2 else Qc (.exit i) a2 w2)
              rw [if_pos rfl]
              simp only [jointOf, Nat.beq_refl, Option.some.injEq] at h1
              subst h1
              simp only [if_true] at h6
              obtain ⟨u, hu, h6⟩ := h6
              exact hk _ a2 w2 (Rel.joint hr h3 h2 hu h5) h4 h5 h6
            · refine block_exO hi ?_
              simp only [hi, if_false] at h6
              have hf : Nat.beq id i = false := by
                cases hq : Nat.beq id i with
                | false => rfl
                | true => exact absurd (Nat.eq_of_beq_eq_true hq).symm hi
              simp only [jointOf, hf] at h1
              exact he i z vs r2 a2 w2 h1 h2 h3 h4 h5 h6
        · exact hw.elim
  | .loop x, r, J, after, k, QM, Qc, a, w, w0, hr, hx, hw, hk, he, hret => by
    simp only [den] at hw
    split at hw
    · rename_i ss vs hss hvs
      obtain ⟨I, μ, ⟨x0, hx0, hI0⟩, hround⟩ := hw
      refine wp_loop_ghost (fun m a' w' => ∃ u : SV ss, Rel fn.ntmps (lay (forget r (writesC x)) _ (SV.list ss u)) a' ∧ Ext w0 w' ∧ Same (writesC x) a a' ∧ I u w'.heap ∧ μ u w'.heap = m) (μ x0 w.heap)
        ⟨x0, Rel.joint hr hr hvs hx0 (Same.refl _ _), hx, Same.refl _ _, hI0, rfl⟩ ?_
      rintro m a1 w1 ⟨u, hr1, hx1, hs1, hI1, rfl⟩
      have st : ∀ {a'}, Same (writesC x) a1 a' → Same (writesC x) a a' := fun h t ht => by rw [h t ht, hs1 t ht]
      refine den_sound hm x hr1 hx1 (hround u w1.heap hI1) (fun r' a' w' hr' hx' hs hw' => ?_) (fun i z vs r2 a2 w2 h1 h2 h3 h4 h5 h6 => ?_) (fun vs a' w' h1 h2 h3 h4 => hret vs a' w' h1 h2 h3 h4)
      · split at hw'
        · rename_i vs' hvs'
          obtain ⟨y, hy, hI, hlt⟩ := hw'
          exact ⟨μ y w'.heap, hlt, y, Rel.joint hr hr' hvs' hy (st hs), hx', st hs, hI, rfl⟩
        · exact hw'.elim
      · exact then_exO (he i z vs r2 a2 w2 h1 h2 h3 h4 (st h5) h6)
    · exact hw.elim
  | .exit id, r, J, after, k, QM, Qc, a, w, w0, hr, hx, hw, _, he, _ => by
    simp only [den] at hw
    split at hw
    · exact hw.elim
    · rename_i hlo
      split at hw
      · rename_i vs hvs
        obtain ⟨z, hz, hvs⟩ := Option.bind_eq_some_iff.1 hvs
        have := he id z vs r a w hz hvs hr hx (Same.refl _ _) hw
        rw [exO_lo hlo] at this
        exact wp_exit this
      · exact hw.elim
  | .goto l, r, J, after, k, QM, Qc, a, w, w0, hr, hx, hw, _, he, _ => by
    simp only [den] at hw
    split at hw
    · rename_i vs hvs
      obtain ⟨z, hz, hvs⟩ := Option.bind_eq_some_iff.1 hvs
      have := he (gj l) z vs r a w hz hvs hr hx (Same.refl _ _) hw
      rw [exO_gj] at this
      exact wp_goto this
    · exact hw.elim
  | .scope x, r, J, after, k, QM, Qc, a, w, w0, hr, hx, hw, hk, he, hret => by
    have straight : wp P (den P fn body x .all r (offG x J) after k) QM w.heap → (Code.scope x).wp P Qc a w := fun hw => by
      refine wp_scope_out (den_sound hm x hr hx hw hk (fun id z vs r' a' w' h1 h2 h3 h4 h5 h6 => ?_) hret)
      obtain ⟨g1, g2⟩ := jointOf_offG h1
      exact scp_exO g1 (he id z vs r' a' w' g2 h2 h3 h4 h5 h6)
    simp only [den] at hw
    split at hw
    · exact straight hw
    · rename_i l hl
      split at hw
      · rename_i rest hj hf
        split at hw
        · rename_i ss hss
          split at hw
          · simp only [wp] at hw
            refine wp_scope_back l (fun n a' w' => n = 0 ∧ ∃ r2, Rel fn.ntmps r2 a' ∧ Ext w0 w' ∧ Same (writesC x) a a' ∧ wp P (den P fn body x (.rest l) r2 (offG x J) after k) QM w'.heap) hf ?_ ?_
            · refine pre_sound x (fun c' h => den_sound hm c') (k := k) (J0 := offG x J) (after2 := after) hf hr hx hw (fun r' a' w' hr' hx' hs hw' => ?_) (fun r' a' w' h1 h2 h3 h4 => hk r' a' w' h1 h2 h3 h4) (fun id z vs r' a' w' h1 h2 h3 h4 h5 h6 => ?_) (fun id z vs r' a' w' h1 h2 h3 h4 h5 h6 => ?_)
                (fun vs a' w' h1 h2 h3 h4 => hret vs a' w' h1 h2 h3 h4) hret
              · split at hw'
                · rename_i vs hvs
                  obtain ⟨u, hu, hw'⟩ := hw'
                  exact ⟨_, Rel.joint hr hr' hvs hu hs, hw'⟩
                · exact hw'.elim
              · by_cases hi : id = gj l
                · subst hi
                  rw [exO_gj]
                  refine .inl ⟨rfl, 0, rfl, ?_⟩
                  simp only [jointOf, Nat.beq_refl, Option.some.injEq] at h1
                  subst h1
                  simp only [if_true] at h6
                  obtain ⟨u, hu, h6⟩ := h6
                  exact ⟨_, Rel.joint hr h3 h2 hu h5, h4, h5, h6⟩
                · simp only [hi, if_false] at h6
                  have hf : Nat.beq (gj l) id = false := by
                    cases hq : Nat.beq (gj l) id with
                    | false => rfl
                    | true => exact absurd (Nat.eq_of_beq_eq_true hq).symm hi
                  simp only [jointOf, hf] at h1
                  obtain ⟨g1, g2⟩ := jointOf_offG h1
                  exact scj_exO g1 (he id z vs r' a' w' g2 h2 h3 h4 h5 h6)
              · obtain ⟨g1, g2⟩ := jointOf_offG h1
                exact scj_exO g1 (he id z vs r' a' w' g2 h2 h3 h4 h5 h6)
            · rintro n a1 w1 ⟨rfl, r2, hr2, hx2, hs2, hw2⟩
              have st : ∀ {a'}, Same (writesC x) a1 a' → Same (writesC x) a a' := fun h t ht => by rw [h t ht, hs2 t ht]
              refine rest_sound x (fun c' h => den_sound hm c') hf hr2 hx2 hw2 (fun r' a' w' h1 h2 h3 h4 => hk r' a' w' h1 h2 (st h3) h4) (fun id z vs r' a' w' h1 h2 h3 h4 h5 h6 => ?_) hret
              obtain ⟨g1, g2⟩ := jointOf_offG h1
              exact scj_exO g1 (he id z vs r' a' w' g2 h2 h3 h4 (st h5) h6)
          · generalize liveX (resSlots fn.results.toList) x (some l) (offG x J) after = li at *
            generalize liveN (writesC x) li = ts at *
            let B : SV ss → M := fun y => .bind (some (gj l)) (den P fn body x (.rest l) (lay (forget r (writesC x)) ts (SV.list ss y)) ((gj l, ts, li) :: offG x J) after fun _ => .fail) ss fun z => .done .normal (SV.list ss z)
            let Att : List AV → H → Prop := fun vs h => ∃ (I : SV ss → H → Prop) (μ : SV ss → H → Nat) (u : SV ss), (SV.list ss u).map AV.val = vs.map AV.val ∧ I u h ∧ Rounds P ss B QM I μ
            let Q1 : Ex → List AV → H → Prop := fun e vs h => match e with
              | .normal => Att vs h
              | .exit i => if i = gj l then Att vs h else QM (.exit i) vs h
              | .goto i => QM (.goto i) vs h
              | .ret => QM .ret vs h
            have hin : ∀ {vs : List AV} {h : H}, (∃ u : SV ss, (SV.list ss u).map AV.val = vs.map AV.val ∧ wp P (.loop ss (SV.list ss u) B) QM h) → Att vs h := by
              rintro vs h ⟨u, hu, I, μ, ⟨x0, hx0, hI0⟩, hround⟩
              exact ⟨I, μ, x0, hx0.trans hu, hI0, hround⟩
            have out : ∀ {id : Nat} {z : List Nat × List Nat} {K : Act → World → Prop} {a' : Act} {w' : World}, id ≠ gj l → jointOf ((gj l, ts, li) :: offG x J) id = some z → (jointOf J id = some z → Qc (exO id) a' w') → scjQ x l K Qc (exO id) a' w' := by
              intro id z K a' w' hi h1 hq
              have hf : Nat.beq (gj l) id = false := by
                cases hq : Nat.beq (gj l) id with
                | false => rfl
                | true => exact absurd (Nat.eq_of_beq_eq_true hq).symm hi
              simp only [jointOf, hf] at h1
              obtain ⟨g1, g2⟩ := jointOf_offG h1
              exact scj_exO g1 (hq g2)
            have jn : ∀ {z : List Nat × List Nat}, jointOf ((gj l, ts, li) :: offG x J) (gj l) = some z → z = (ts, li) := by
              intro z h1
              simp only [jointOf, Nat.beq_refl, Option.some.injEq] at h1
              exact h1.symm
            have q1x : ∀ {i : Nat} {vs : List AV} {h : H}, i = gj l → Q1 (.exit i) vs h → Att vs h := by
              intro i vs h hi hq
              have hq : (if i = gj l then Att vs h else QM (.exit i) vs h) := hq
              rw [if_pos hi] at hq
              exact hq
            have q1o : ∀ {i : Nat} {vs : List AV} {h : H}, i ≠ gj l → Q1 (.exit i) vs h → QM (.exit i) vs h := by
              intro i vs h hi hq
              have hq : (if i = gj l then Att vs h else QM (.exit i) vs h) := hq
              rw [if_neg hi] at hq
              exact hq
            have hpre : wp P (den P fn body x (.pre l) r ((gj l, ts, li) :: offG x J) after fun r => match outs r ts with
                | some vs => .done .normal vs
                | none => .fail) Q1 w.heap := by
              have hw0 := hw
              rw [wp] at hw0
              refine wp_mono hw0 fun e vs h hq => ?_
              cases e with
              | normal => exact hin hq
              | exit i =>
                show (if i = gj l then Att vs h else QM (.exit i) vs h)
                by_cases hi : i = gj l
                · dsimp only at hq
                  rw [if_pos hi] at hq ⊢
                  exact hin hq
                · dsimp only at hq
                  rw [if_neg hi] at hq ⊢
                  exact hq
              | goto i => exact hq
              | ret => exact hq
            have hrest : ∀ {I : SV ss → H → Prop} {μ : SV ss → H → Nat} {u : SV ss} {h0 : H}, Rounds P ss B QM I μ → I u h0 → wp P (den P fn body x (.rest l) (lay (forget r (writesC x)) ts (SV.list ss u)) ((gj l, ts, li) :: offG x J) after fun _ => .fail) (fun e vs h => match e with
                | .normal => ∃ y, (SV.list ss y).map AV.val = vs.map AV.val ∧ I y h ∧ μ y h < μ u h0
                | .exit i => if i = gj l then ∃ y, (SV.list ss y).map AV.val = vs.map AV.val ∧ I y h ∧ μ y h < μ u h0 else QM (.exit i) vs h
                | .goto i => QM (.goto i) vs h
                | .ret => QM .ret vs h) h0 := by
              intro I μ u h0 hround hI
              have hq := hround u _ hI
              simp only [B, wp] at hq
              refine wp_mono hq fun e vs h hq => ?_
              cases e with
              | normal =>
                obtain ⟨y, hy, y2, hy2, hI2, hlt⟩ := hq
                exact ⟨y2, hy2.trans hy, hI2, hlt⟩
              | exit i =>
                show (if i = gj l then ∃ y, (SV.list ss y).map AV.val = vs.map AV.val ∧ I y h ∧ μ y h < μ u h0 else QM (.exit i) vs h)
                by_cases hi : i = gj l
                · dsimp only at hq
                  rw [if_pos hi] at hq ⊢
                  obtain ⟨y, hy, y2, hy2, hI2, hlt⟩ := hq
                  exact ⟨y2, hy2.trans hy, hI2, hlt⟩
                · dsimp only at hq
                  rw [if_neg hi] at hq ⊢
                  exact hq
              | goto i => exact hq
              | ret => exact hq
            refine wp_scope_back l (fun n a' w' => ∃ (I : SV ss → H → Prop) (μ : SV ss → H → Nat) (u : SV ss), μ u w'.heap = n ∧ Rel fn.ntmps (lay (forget r (writesC x)) ts (SV.list ss u)) a' ∧ Ext w0 w' ∧ Same (writesC x) a a' ∧ I u w'.heap ∧ Rounds P ss B QM I μ) hf ?_ ?_
            · refine pre_sound x (fun c' h => den_sound hm c') (k := fun _ => .fail) (J0 := (gj l, ts, li) :: offG x J) (after2 := after) (Q1 := Q1) (QM := Q1) hf hr hx hpre (fun r' a' w' hr' hx' hs hw' => ?_) (fun r' a' w' h1 h2 h3 h4 => h4.elim) (fun id z vs r' a' w' h1 h2 h3 h4 h5 h6 => ?_) (fun id z vs r' a' w' h1 h2 h3 h4 h5 h6 => ?_)
                (fun vs a' w' h1 h2 h3 h4 => hret vs a' w' h1 h2 h3 h4) (fun vs a' w' h1 h2 h3 h4 => hret vs a' w' h1 h2 h3 h4)
              · split at hw'
                · rename_i vs hvs
                  have hw' : Att vs w'.heap := hw'
                  obtain ⟨I, μ, u, hu, hI, hround⟩ := hw'
                  refine ⟨lay (forget r (writesC x)) ts (SV.list ss u), Rel.joint hr hr' hvs hu hs, wp_mono (hrest hround hI) fun e vs h hq => ?_⟩
                  cases e with
                  | normal =>
                    obtain ⟨y, hy, hI2, _⟩ := hq
                    exact ⟨I, μ, y, hy, hI2, hround⟩
                  | exit i =>
                    show (if i = gj l then Att vs h else QM (.exit i) vs h)
                    by_cases hi : i = gj l
                    · dsimp only at hq
                      rw [if_pos hi] at hq ⊢
                      obtain ⟨y, hy, hI2, _⟩ := hq
                      exact ⟨I, μ, y, hy, hI2, hround⟩
                    · dsimp only at hq
                      rw [if_neg hi] at hq ⊢
                      exact hq
                  | goto i => exact hq
                  | ret => exact hq
                · exact hw'.elim
              · by_cases hi : id = gj l
                · obtain ⟨I, μ, u, hu, hI, hround⟩ := q1x hi h6
                  subst hi
                  rw [exO_gj]
                  obtain rfl := jn h1
                  exact .inl ⟨rfl, _, I, μ, u, rfl, Rel.joint hr h3 h2 hu h5, h4, h5, hI, hround⟩
                · exact out hi h1 fun g => he id z vs r' a' w' g h2 h3 h4 h5 (q1o hi h6)
              · by_cases hi : id = gj l
                · obtain ⟨I, μ, u, hu, hI, hround⟩ := q1x hi h6
                  subst hi
                  rw [exO_gj]
                  obtain rfl := jn h1
                  exact .inl ⟨rfl, _, I, μ, u, rfl, Rel.joint hr h3 h2 hu h5, h4, h5, hI, hround⟩
                · exact out hi h1 fun g => he id z vs r' a' w' g h2 h3 h4 h5 (q1o hi h6)
            · rintro n a1 w1 ⟨I, μ, u, rfl, hr2, hx2, hs2, hI, hround⟩
              have st : ∀ {a'}, Same (writesC x) a1 a' → Same (writesC x) a a' := fun h t ht => by rw [h t ht, hs2 t ht]
              refine rest_sound x (fun c' h => den_sound hm c') hf hr2 hx2 (hrest hround hI) (fun r' a' w' h1 h2 h3 h4 => h4.elim) (fun id z vs r' a' w' h1 h2 h3 h4 h5 h6 => ?_) (fun vs a' w' h1 h2 h3 h4 => hret vs a' w' h1 h2 h3 h4)
              dsimp only at h6
              by_cases hi : id = gj l
              · rw [if_pos hi] at h6
                obtain ⟨y, hy, hI2, hlt⟩ := h6
                subst hi
                rw [exO_gj]
                obtain rfl := jn h1
                exact .inl ⟨rfl, _, hlt, I, μ, y, rfl, Rel.joint hr h3 h2 hy (st h5), h4, st h5, hI2, hround⟩
              · rw [if_neg hi] at h6
                exact out hi h1 fun g => he id z vs r' a' w' g h2 h3 h4 (st h5) h6
        · exact hw.elim
      · exact hw.elim
      · exact straight hw
  | .ret, r, J, after, k, QM, Qc, a, w, w0, hr, hx, hw, _, _, hret => by
    obtain ⟨vs, h1, hw⟩ := ret_sound hr hw
    exact wp_ret (hret vs a w hr.defers hx h1 hw)
  | .rangeFunc _ _ _ _, _, _, _, _, _, _, _, _, _, _, _, hw, _, _, _ => hw.elim
  | .refuse _, _, _, _, _, _, _, _, _, _, _, _, hw, _, _, _ => hw.elim
termination_by c => SizeOf.sizeOf c
decreasing_by all_goals (simp_wf; try omega)
def retV : List AV → Value
  | [v] => v.val
  | vs => .tuple (vs.map AV.val).toArray
theorem results_ret {P : Program} {fn : Func} {a : Act} {w : World} {vs : List AV} (h : RetOk P fn.results.toList a w vs) : (results fn a.tmps).run P w = .ok (retV vs) w := by
  have e : (fn.results.mapM (resOne a.tmps)).run P w = .ok (vs.map AV.val).toArray w := by
    rw [Array.mapM_eq_mapM_toList]
    simp only [Sem.run_map]
    rw [show (fn.results.toList.mapM (resOne a.tmps)).run P w = _ from h]
    rfl
  have e2 : results fn a.tmps = (do let vs ← fn.results.mapM (resOne a.tmps); pure (if h : vs.size = 1 then vs[0] else .tuple vs)) := by
    unfold results
    congr 1
  rw [e2]
  simp only [Sem.run_bind, e, Result.andThen_ok, Sem.run_pure]
  match vs with
  | [] => rfl
  | [v] => rfl
  | _ :: _ :: _ => simp [retV]
def Ret (R : Value → H → Prop) : Ex → List AV → H → Prop
  | .ret, vs, h => R (retV vs) h
  | _, _, _ => False
theorem den_calls {P : Program} (hm : P.follows .mixedOrders = true) {f : FuncId} {fn : Func} (hf : P.funcs[f]? = some fn) {args : List AV} (hn : args.length ≤ fn.ntmps) {h : H} {R : Value → H → Prop}
    (hw : wp P (denFn P fn args) (Ret R) h) : HC P f (args.map AV.val).toArray h R := by
  intro w hwh
  subst hwh
  unfold denFn at hw
  split at hw
  · rename_i c hb
    refine calls_of_wp hf hb ?_
    have hr : Rel fn.ntmps (fun t => args[t]?) { tmps := (args.map AV.val).toArray ++ Array.replicate (fn.ntmps - (args.map AV.val).toArray.size) undef, defers := [] } := by
      refine ⟨fun t v hv => ?_, by simp; omega, rfl⟩
      have hlt : t < args.length := (List.getElem?_eq_some_iff.1 hv).1
      simp only [Array.getD_eq_getD_getElem?]
      rw [Array.getElem?_append_left (by simpa using hlt)]
      simp [hv]
    refine den_sound hm c (w0 := w) hr (Ext.refl w) hw (fun r' a' w' hr' hx' _ hw' => ?_) (fun id x vs r' a' w' hj _ _ _ _ _ => by simp [jointOf] at hj) (fun vs a' w' hd hx' ho hq => ?_)
    · obtain ⟨vs, ho, hq⟩ := ret_sound hr' hw'
      exact ⟨hr'.defers, retV vs, results_ret ho, retV vs, rfl, hx', hq⟩
    · exact ⟨hd, retV vs, results_ret ho, retV vs, rfl, hx', hq⟩
  · exact hw.elim
end Go.Proofs.Ytegnpimlfphncaa
