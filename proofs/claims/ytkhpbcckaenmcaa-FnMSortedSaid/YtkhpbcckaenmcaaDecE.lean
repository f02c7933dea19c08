/-
  The reading of a body as a typed program. Conditions: none.
-/
import Derived.Test.YtkhpbcckaenmcaaDecD
namespace Go.Proofs.Ytkhpbcckaenmcaa
open Go

/-- Which kind of operation. -/
inductive Kd where
  | pure | load | eff
def kindOf : Op → Kd
  | .load _ _ => .load
  | .alloc _ => .eff
  | .box _ _ => .eff
  | .buildSlice _ _ _ => .eff
  | .store _ _ _ => .eff
  | .makeSlice _ _ _ => .eff
  | .call c => match c.callee with
    | .builtin .len => .pure
    | .builtin .cap => .pure
    | _ => .eff
  | _ => .pure

def putR (n : Nat) (r : Regs) (dst : Option Tmp) (v : Option AV) (k : Regs → M) : M :=
  match dst with
  | none => k r
  | some d => match Nat.ble (d + 1) n with
    | true => k (upd r d v)
    | false => .fail

/-- One operation, whatever its kind; 'k' takes what it read from the heap. -/
def oneOp (P : Program) (n : Nat) (o : Oper) (r : Regs) (k : List (PA × List Cell) → Regs → M) : M :=
  match kindOf o.op with
  | .pure => pureOp P o r fun v => putR n r o.dst (some v) (k [])
  | .load => match o.op with
    | .load t x => loadOp P t x r fun p v => putR n r o.dst (some v) (k [(p, cellsAV v)])
    | _ => .fail
  | .eff => effOp P o r fun v => putR n r o.dst v (k [])

/-- The guard of an operation. -/
def guarded (ops : List Oper) (o : Oper) (r : Regs) (yes no : Regs → M) : M :=
  match o.guard with
  | none => yes r
  | some (j, want) =>
    match (ops[j]?).bind (·.dst) with
    | none => .fail
    | some d =>
      match r d with
      | some (.c .tt) => match want with | true => yes r | false => no r
      | some (.c .ff) => match want with | true => no r | false => yes r
      | some (.c (.bool b)) => .ite b (match want with | true => yes (upd r d (some (.c .tt))) | false => no (upd r d (some (.c .tt))))
          (match want with | true => no (upd r d (some (.c .ff))) | false => yes (upd r d (some (.c .ff))))
      | some (.tup _) => no r
      | _ => .fail

/-- A region in the order of its text. -/
def seqOps (P : Program) (n : Nat) (ops : List Oper) : List Oper → Regs → (Regs → M) → M
  | [], r, k => k r
  | o :: rest, r, k => guarded ops o r (fun r => oneOp P n o r fun _ r => seqOps P n ops rest r k) (fun r => putR n r o.dst (some (.tup [])) fun r => seqOps P n ops rest r k)

/-! ### A region that draws its order -/
def bit (i : Nat) : Nat := Nat.pow 2 i
def has (m i : Nat) : Bool := Nat.testBit m i
/-- Those for which an operation waits at once, as a number of bits. -/
def predsL : List Edge → Nat
  | [] => 0
  | e :: r => match Region.binds .any e with
    | true => Nat.lor (bit e.on) (predsL r)
    | false => predsL r
def preds (o : Oper) : Nat := predsL o.after.toList
/-- Those for which one of 'm' waits at once. -/
def predsIn (m : Nat) : List Oper → Nat → Nat
  | [], _ => 0
  | o :: r, i => match has m i with
    | true => Nat.lor (preds o) (predsIn m r (i + 1))
    | false => predsIn m r (i + 1)
/-- Those for which an operation waits, at once or through others. -/
def closeM (ops : List Oper) : Nat → Nat → Nat
  | 0, m => m
  | f + 1, m => (fun m' => match Nat.beq m' m with
    | true => m
    | false => closeM ops f m') (Nat.lor m (predsIn m ops 0))
def waitsM (ops : List Oper) (o : Oper) : Nat := closeM ops ops.length (preds o)
/-- Those that may come up: 'done' the ones that have. -/
def readyM (done : Nat) : List Oper → Nat → List Nat
  | [], _ => []
  | o :: r, i => match has done i, Nat.beq (Nat.land (preds o) done) (preds o) with
    | false, true => i :: readyM done r (i + 1)
    | _, _ => readyM done r (i + 1)
def isEff (o : Oper) : Bool := match kindOf o.op with | .eff => true | _ => false
/-- Any two operations, one of them without an effect, are apart, or one waits for the other. -/
def apartAll (ops : Array Oper) : Bool :=
  ops.toList.zipIdx.all fun (x, i) => ops.toList.zipIdx.all fun (y, j) => Nat.beq i j || has (preds x) j || has (preds y) i || (isEff x && isEff y) || x.apart ops y || has (waitsM ops.toList x) j || has (waitsM ops.toList y) i

/-- All that is waited for is in the region. -/
def insideAll (ops : Array Oper) : Bool := ops.toList.all fun o => o.after.toList.all fun e => Nat.ble (e.on + 1) ops.size

def heldAll : List (PA × List Cell) → M → M
  | [], k => k
  | (p, cs) :: r, k => go p cs (heldAll r k)
where go (p : PA) : List Cell → M → M
  | [], k => k
  | c :: cs, k => .held p c (go (p.1, p.2 + 1) cs k)

/-- All of them. -/
def allOf : List M → M
  | [] => .fail
  | [x] => x
  | x :: r => .both x (allOf r)

/-- The first of those that may come up now that has no effect. -/
def pickFree (ops : List Oper) : List Nat → Option Nat
  | [] => none
  | i :: r => match ops[i]? with
    | some o => match isEff o with
      | false => some i
      | true => pickFree ops r
    | none => pickFree ops r

/-- 'done': what has come up; 'held': what the region has read so far, each with the number of its operation. -/
def drawOps (P : Program) (n : Nat) (ops : List Oper) : Nat → Nat → List (Nat × PA × List Cell) → Regs → (Regs → M) → M
  | 0, _, _, _, _ => .fail
  | f + 1, done, held, r, k =>
    match readyM done ops 0 with
    | [] => k r
    | i :: more =>
      match pickFree ops (i :: more) with
      | some i =>
        match ops[i]? with
        | some o => guarded ops o r
            (fun r => oneOp P n o r fun got r => drawOps P n ops f (Nat.lor done (bit i)) (got.map (fun g => (i, g.1, g.2)) ++ held) r k)
            (fun r => putR n r o.dst (some (.tup [])) fun r => drawOps P n ops f (Nat.lor done (bit i)) held r k)
        | none => .fail
      | none =>
        allOf ((i :: more).map fun i => match ops[i]? with
        | some o => guarded ops o r
            (fun r => oneOp P n o r fun _ r =>
              let held' := held.filter fun x => !has (waitsM ops o) x.1
              heldAll (held'.map (·.2)) (drawOps P n ops f (Nat.lor done (bit i)) held' r k))
            (fun r => putR n r o.dst (some (.tup [])) fun r => drawOps P n ops f (Nat.lor done (bit i)) held r k)
        | none => .fail)
/-- May two operations with an effect come up at the same time? -/
def branchy (ops : List Oper) : Nat → Nat → Bool
  | 0, _ => false
  | f + 1, done =>
    match readyM done ops 0 with
    | [] => false
    | i :: more =>
      match pickFree ops (i :: more) with
      | some i => branchy ops f (Nat.lor done (bit i))
      | none => match more with
        | [] => branchy ops f (Nat.lor done (bit i))
        | _ => true
/-- Does a region need a joint behind it? -/
def jointed (ops : Array Oper) (draw : Bool) : Bool := (ops.toList.any fun o => o.guard.isSome) || (draw && branchy ops.toList (ops.size + 1) 0)

/-! ### Which slots a piece of code writes and reads (only what is chosen for the joints hangs on this) -/
def opReads (o : Oper) : List Nat := o.op.operands.toList.filterMap fun | .tmp t => some t | _ => none
def writesC : Code → List Nat
  | .region _ ops _ => ops.toList.filterMap (·.dst)
  | .seq a b => writesC a ++ writesC b
  | .cond _ a b => writesC a ++ writesC b
  | .block _ a => writesC a
  | .loop a => writesC a
  | .scope a => writesC a
  | _ => []
/-- Does it leave block 'id' by name? -/
def usesExit (id : Nat) : Code → Bool
  | .seq a b => usesExit id a || usesExit id b
  | .cond _ a b => usesExit id a || usesExit id b
  | .block _ a => usesExit id a
  | .loop a => usesExit id a
  | .scope a => usesExit id a
  | .exit i => Nat.beq i id
  | _ => false
/-- May the code go on behind itself? -/
def fallsC : Code → Bool
  | .seq a b => fallsC a && fallsC b
  | .cond _ a b => fallsC a || fallsC b
  | .loop _ => false
  | .exit _ => false
  | .goto _ => false
  | .ret => false
  | .refuse _ => false
  | _ => true
def memN (x : Nat) : List Nat → Bool
  | [] => false
  | y :: r => match Nat.beq x y with | true => true | false => memN x r
def addN (acc : List Nat) : List Nat → List Nat
  | [] => acc
  | x :: r => match memN x acc with | true => addN acc r | false => addN (x :: acc) r
/-- What is handed on at the end of a block: the block's number, its slots, and what may be read behind it. -/
abbrev Joints := List (Nat × List Nat × List Nat)
def jointOf : Joints → Nat → Option (List Nat × List Nat)
  | [], _ => none
  | (i, x) :: r, j => match Nat.beq i j with | true => some x | false => jointOf r j
def dropJ (id : Nat) : Joints → Joints
  | [] => []
  | (i, x) :: r => match Nat.beq i id with | true => dropJ id r | false => (i, x) :: dropJ id r
def without (d : Nat) : List Nat → List Nat
  | [] => []
  | x :: r => match Nat.beq x d with | true => without d r | false => x :: without d r
def liveOps : List Oper → List Nat → List Nat
  | [], out => out
  | o :: r, out => addN (match o.dst with
      | some d => without d (liveOps r out)
      | none => liveOps r out) (opReads o)
/-- What may be read before it is written, in a piece of code and behind it. -/
def liveIn (res : List Nat) : Code → Joints → List Nat → List Nat
  | .region _ ops _, _, out => liveOps ops.toList out
  | .seq a b, J, out => liveIn res a J (liveIn res b J out)
  | .cond c a b, J, out => addN (addN (liveIn res a J out) (liveIn res b J out)) (match c with | .tmp t => [t] | _ => [])
  | .block id a, J, out => liveIn res a ((id, [], out) :: J) out
  | .loop a, J, _ => liveIn res a J []
  | .scope a, J, out => liveIn res a J out
  | .exit id, J, _ => match jointOf J id with
    | some x => x.2
    | none => []
  | .ret, _, _ => res
  | _, _, out => out
/-- The slots to hand on: written, and read behind. -/
def liveN (wr rd : List Nat) : List Nat := (addN [] wr).filter fun x => memN x rd

/-- The shape of what an operation lays into its slot. -/
def opShape (P : Program) (o : Oper) : Option Sh :=
  match o.op with
  | .alloc _ => some (.c .addr)
  | .box _ _ => some (.c .addr)
  | .fieldAddr _ _ _ => some (.c .addr)
  | .indexAddr _ _ _ => some (.c .addr)
  | _ => shT P o.type
def findDst (P : Program) (t : Nat) : List Oper → Option Sh
  | [] => none
  | o :: r => match o.dst with
    | some d => match Nat.beq d t with
      | true => match o.op with
        | .extract _ _ => findDst P t r
        | _ => opShape P o
      | false => findDst P t r
    | none => findDst P t r
def findSlot (P : Program) (t : Nat) : Code → Option Sh
  | .region _ ops _ => findDst P t ops.toList
  | .seq a b => match findSlot P t a with | some t => some t | none => findSlot P t b
  | .cond _ a b => match findSlot P t a with | some t => some t | none => findSlot P t b
  | .block _ a => findSlot P t a
  | .loop a => findSlot P t a
  | .scope a => findSlot P t a
  | _ => none
/-- The shape of what is laid into a slot. -/
def slotType (P : Program) (fn : Func) (c : Code) (t : Nat) : Option Sh :=
  match (fn.params.toList)[t]? with
  | some ty => shT P ty
  | none => findSlot P t c

def resSlots : List ResultVar → List Nat
  | [] => []
  | .tmp t :: r => t :: resSlots r
  | .cell t _ :: r => t :: resSlots r

def shOfAV : AV → Option Sh
  | .c (.int k _) => some (.c (.int k))
  | .c (.bool _) => some (.c .bool)
  | .c .tt => some (.c .bool)
  | .c .ff => some (.c .bool)
  | .c (.addr _) => some (.c .addr)
  | .c (.ptr _) => some (.c .ptr)
  | .c (.sl _ _ _) => some (.c .sl)
  | .c (.str _) => some (.c .str)
  | .c (.raw _) => some (.c .raw)
  | _ => none

def outs (r : Regs) : List Nat → Option (List AV)
  | [] => some []
  | t :: ts => match r t, outs r ts with
    | some v, some vs => some (v :: vs)
    | _, _ => none
def shapes (P : Program) (fn : Func) (c : Code) : List Nat → Option (List Sh)
  | [] => some []
  | t :: ts => match slotType P fn c t, shapes P fn c ts with
    | some s, some ss => some (s :: ss)
    | _, _ => none

/-- Forget what is written, lay what is handed on. -/
def lay (r : Regs) : (ts : List Nat) → (vs : List AV) → Regs
  | t :: ts, v :: vs => upd (lay r ts vs) t (some v)
  | _, _ => r
def forget (r : Regs) (ws : List Nat) : Regs := fun t => match memN t ws with | true => none | false => r t

def retLoads (P : Program) (r : Regs) : List ResultVar → (List AV → M) → M
  | [], k => k []
  | .tmp t :: rs, k => match r t with
    | some v => retLoads P r rs fun vs => k (v :: vs)
    | none => .fail
  | .cell a t :: rs, k => loadOp P t (.tmp a) r fun _ v => retLoads P r rs fun vs => k (v :: vs)

/-- A region. -/
def runR (P : Program) (n : Nat) (ops : Array Oper) (draw : Bool) (r : Regs) (k : Regs → M) : M :=
  match draw with
  | false => seqOps P n ops.toList ops.toList r k
  | true => match Region.noSelect ops && (apartAll ops && insideAll ops) with
    | true => drawOps P n ops.toList (ops.size + 1) 0 [] r k
    | false => .fail

/-- 'after': the slots that may be read behind this piece. -/
def den (P : Program) (fn : Func) (body : Code) : Code → Regs → Joints → List Nat → (Regs → M) → M
  | .skip, r, _, _, k => k r
  | .region _ ops draw, r, _, after, k =>
    match jointed ops draw with
    | false => runR P fn.ntmps ops draw r k
    | true =>
      let ws := ops.toList.filterMap (·.dst)
      let ts := liveN ws after
      match shapes P fn body ts with
      | some ss => .bind none (runR P fn.ntmps ops draw r fun r => match outs r ts with
          | some vs => .done .normal vs
          | none => .fail) ss fun x => k (lay (forget r ws) ts (SV.list ss x))
      | none => .fail
  | .seq a b, r, J, after, k => den P fn body a r J (liveIn (resSlots fn.results.toList) b J after) fun r => den P fn body b r J after k
  | .cond c a b, r, J, after, k => ev r c fun
    | .c .tt => den P fn body a r J after k
    | .c .ff => den P fn body b r J after k
    | .c (.bool t) =>
      match fallsC a && fallsC b with
      | false => .ite t (den P fn body a r J after k) (den P fn body b r J after k)
      | true =>
        let ws := writesC a ++ writesC b
        let ts := liveN ws after
        match shapes P fn body ts with
        | some ss =>
          let out : Regs → M := fun r => match outs r ts with
            | some vs => .done .normal vs
            | none => .fail
          .bind none (.ite t (den P fn body a r J after out) (den P fn body b r J after out)) ss fun x => k (lay (forget r ws) ts (SV.list ss x))
        | none => .fail
    | _ => .fail
  | .block id a, r, J, after, k =>
    match usesExit id a with
    | false => den P fn body a r (dropJ id J) after k
    | true =>
    let ws := writesC a
    let ts := liveN ws after
    match shapes P fn body ts with
    | some ss => .bind (some id) (den P fn body a r ((id, ts, after) :: J) after fun r => match outs r ts with
        | some vs => .done .normal vs
        | none => .fail) ss fun x => k (lay (forget r ws) ts (SV.list ss x))
    | none => .fail
  | .loop a, r, J, _, _ =>
    let ws := writesC a
    let li := liveIn (resSlots fn.results.toList) a J []
    let ts := (liveN ws li).filter fun t => (r t).isSome
    match shapes P fn body ts, outs r ts with
    | some ss, some vs => .loop ss vs fun x => den P fn body a (lay (forget r ws) ts (SV.list ss x)) J li fun r => match outs r ts with
        | some vs => .done .normal vs
        | none => .fail
    | _, _ => .fail
  | .exit id, r, J, _, _ => match (jointOf J id).bind (fun x => outs r x.1) with
    | some vs => .done (.exit id) vs
    | none => .fail
  | .scope a, r, J, after, k => den P fn body a r J after k
  | .label _, r, _, _, k => k r
  | .ret, r, _, _, _ => retLoads P r fn.results.toList fun vs => .done .ret vs
  | .rangeFunc _ _ _ _, _, _, _, _ => .fail
  | .goto _, _, _, _, _ => .fail
  | .refuse _, _, _, _, _ => .fail

def argRegs : List AV → Regs
  | [] => fun _ => none
  | vs => fun t => vs[t]?

/-- A function as a typed program. -/
def denFn (P : Program) (fn : Func) (args : List AV) : M :=
  match fn.body with
  | some c => den P fn c c (fun t => args[t]?) [] (resSlots fn.results.toList) fun r => retLoads P r fn.results.toList fun vs => .done .ret vs
  | none => .fail

end Go.Proofs.Ytkhpbcckaenmcaa
