/-
  The reading of one operation as a typed program. Conditions: none.
-/
import Derived.Test.YtkhpbcckaenmcaaDec
namespace Go.Proofs.Ytkhpbcckaenmcaa
open Go

abbrev Regs := Nat → Option AV
def upd (r : Regs) (d : Nat) (v : Option AV) : Regs := fun t => match Nat.beq t d with | true => v | false => r t

def ofV1 : Value → Option Cell
  | .int k n => some (.int k n)
  | .bool true => some .tt
  | .bool false => some .ff
  | .pointer none => some (.ptr none)
  | .slice none l c => some (.sl none l c)
  | .string s => some (.str s)
  | .nilFunc => some (.raw .nilFunc)
  | .nilIface => some (.raw .nilIface)
  | .func f a b => some (.raw (.func f a b))
  | _ => none
def ofVs : List Value → Option (List Cell)
  | [] => some []
  | v :: vs => match ofV1 v, ofVs vs with
    | some c, some cs => some (c :: cs)
    | _, _ => none
def ofV : Value → Option AV
  | .agg cs => (ofVs cs.toList).map .agg
  | v => (ofV1 v).map .c

def evo (r : Regs) : Operand → Option AV
  | .tmp t => r t
  | .const v => ofV v
  | .global g => some (.c (.addr (g, 0)))
  | .func f => some (.c (.raw (.func (.func f) #[] #[])))
def ev (r : Regs) (x : Operand) (k : AV → M) : M :=
  match evo r x with
  | some v => k v
  | none => .fail
def evs (r : Regs) : List Operand → (List AV → M) → M
  | [], k => k []
  | x :: xs, k => ev r x fun v => evs r xs fun vs => k (v :: vs)

def InK (k : IntKind) (n : Int) : Prop := k.wrap n = n

def sh1Of : Value → Option Sh1
  | .int k _ => some (.int k)
  | .bool _ => some .bool
  | .pointer _ => some .ptr
  | .slice _ _ _ => some .sl
  | .string _ => some .str
  | .nilFunc => some .raw
  | .nilIface => some .raw
  | _ => none
def sh1s : List Value → Option (List Sh1)
  | [] => some []
  | v :: vs => match sh1Of v, sh1s vs with
    | some c, some cs => some (c :: cs)
    | _, _ => none
def aggT (P : Program) (t : TypeId) : Option Bool :=
  match P.underlying t with
  | some (.struct _) => some true
  | some (.array _ _) => some true
  | some _ => some false
  | none => none
def shT (P : Program) (t : TypeId) : Option Sh :=
  match aggT P t, (P.info? t).bind (·.zero) with
  | some true, some (.agg cs) => (sh1s cs.toList).map .agg
  | some false, some v => (sh1Of v).map .c
  | _, _ => none
def sizeT (P : Program) (t : TypeId) : Option Nat := (P.info? t).map (·.size)
def zeroT (P : Program) (t : TypeId) : Option (List Cell) := (P.info? t).bind (·.zero) |>.bind fun z => ofVs z.cells.toList
def bytesT (P : Program) (t : TypeId) : Option Nat := (P.info? t).map (·.bytes)
def elemT (P : Program) (t : TypeId) : Option TypeId :=
  match P.underlying t with
  | some (.slice e) => some e
  | _ => none
def fieldT (P : Program) (s : TypeId) (f : Nat) : Option (Nat × TypeId) :=
  match P.underlying s with
  | some (.struct fs) => (fs[f]?).map fun x => (x.offset, x.type)
  | _ => none
def intT (P : Program) (t : TypeId) : Option IntKind :=
  match P.underlying t with
  | some (.int k) => some k
  | _ => none

def rowOf (z : List Cell) (n : Nat) : List Cell := (List.range n).map fun i => (z[i % z.length]?).getD .tt
def structT (P : Program) (t : TypeId) : Option (List Field) :=
  match P.underlying t with
  | some (.struct fs) => some fs.toList
  | _ => none
def placesT (P : Program) : List Field → Option (List (Nat × Nat))
  | [] => some []
  | f :: fs => match sizeT P f.type, placesT P fs with
    | some s, some l => some ((f.offset, s) :: l)
    | _, _ => none

def nilOk : Value → Prop
  | .func (.func _) _ _ => True
  | .iface _ _ => True
  | _ => False

/-- An index times an element's size. -/
def mulN (n sz : Nat) : Nat := match sz with | 1 => n | _ => n * sz
def slBase (p : Option PA) (m lo sz : Nat) : Option PA := if m = lo then p else p.map fun a => (a.1, a.2 + mulN lo sz)

def intOp (op : BinOp) (kd : IntKind) (a b : Int) (k : AV → M) : M :=
  match op with
  | .add => .guard (InK kd (a + b)) (k (.c (.int kd (a + b))))
  | .sub => .guard (InK kd (a - b)) (k (.c (.int kd (a - b))))
  | .mul => .guard (InK kd (a * b)) (k (.c (.int kd (a * b))))
  | .quo => .guard (b ≠ 0 ∧ InK kd (a.tdiv b)) (k (.c (.int kd (a.tdiv b))))
  | .rem => .guard (b ≠ 0) (k (.c (.int kd (a.tmod b))))
  | .shr => .guard (0 ≤ b ∧ b.toNat ≤ kd.bits) (k (.c (.int kd (a.fdiv (2 ^ b.toNat)))))
  | .eql => k (.c (.bool (a == b)))
  | .neq => k (.c (.bool (a != b)))
  | .lss => k (.c (.bool (a < b)))
  | .leq => k (.c (.bool (a ≤ b)))
  | .gtr => k (.c (.bool (a > b)))
  | .geq => k (.c (.bool (a ≥ b)))
  | _ => .fail

def strOp (op : BinOp) (x y : ByteArray) (k : AV → M) : M :=
  match op with
  | .eql => k (.c (.bool (x.toList == y.toList)))
  | .neq => k (.c (.bool (!(x.toList == y.toList))))
  | .lss => k (.c (.bool (Op.bytesLess x.toList y.toList)))
  | .leq => k (.c (.bool (Op.bytesLess x.toList y.toList || x.toList == y.toList)))
  | .gtr => k (.c (.bool (!(Op.bytesLess x.toList y.toList || x.toList == y.toList))))
  | .geq => k (.c (.bool (!Op.bytesLess x.toList y.toList)))
  | _ => .fail

def boolOf : Cell → Option Bool
  | .bool b => some b
  | .tt => some true
  | .ff => some false
  | _ => none

def sliceOp (p : Option PA) (l c sz : Nat) (lo hi mx : Option Int) (k : AV → M) : M :=
  match lo, hi, mx with
  | none, none, none => k (.c (.sl (slBase p c 0 sz) (l - 0) (c - 0)))
  | some a, none, none => .guard (0 ≤ a ∧ a ≤ l) (k (.c (.sl (slBase p c a.toNat sz) (l - a.toNat) (c - a.toNat))))
  | none, some b, none => .guard (0 ≤ b ∧ b ≤ c) (k (.c (.sl (slBase p c 0 sz) (b.toNat - 0) (c - 0))))
  | some a, some b, none => .guard ((0 ≤ b ∧ b ≤ c) ∧ 0 ≤ a ∧ a ≤ b.toNat) (k (.c (.sl (slBase p c a.toNat sz) (b.toNat - a.toNat) (c - a.toNat))))
  | none, some b, some m => .guard ((0 ≤ m ∧ m ≤ c) ∧ 0 ≤ b ∧ b ≤ m.toNat) (k (.c (.sl (slBase p m.toNat 0 sz) (b.toNat - 0) (m.toNat - 0))))
  | some a, some b, some m => .guard ((0 ≤ m ∧ m ≤ c) ∧ (0 ≤ b ∧ b ≤ m.toNat) ∧ 0 ≤ a ∧ a ≤ b.toNat) (k (.c (.sl (slBase p m.toNat a.toNat sz) (b.toNat - a.toNat) (m.toNat - a.toNat))))
  | _, _, _ => .fail

def evInt (r : Regs) (x : Operand) (k : Int → M) : M :=
  ev r x fun
    | .c (.int _ n) => k n
    | _ => .fail
def evIntO (r : Regs) : Option Operand → (Option Int → M) → M
  | none, k => k none
  | some x, k => evInt r x fun n => k (some n)

def cellsAV : AV → List Cell
  | .c x => [x]
  | .agg cs => cs
  | .tup _ => []
def isTup : AV → Bool
  | .tup _ => true
  | _ => false

def setCells (cs : List Cell) (off : Nat) : List Cell → List Cell
  | [] => cs
  | c :: r => setCells (cs.set off c) (off + 1) r
def fillC (place : Nat → Option (Nat × Nat)) (cells : List Cell) : List (Nat × AV) → Option (List Cell)
  | [] => some cells
  | (i, v) :: rest =>
    match place i, isTup v with
    | some (off, size), false =>
      match decide ((cellsAV v).length = size ∧ off + (cellsAV v).length ≤ cells.length) with
      | true => fillC place (setCells cells off (cellsAV v)) rest
      | false => none
    | _, _ => none
def evParts (r : Regs) : List (Nat × Operand) → (List (Nat × AV) → M) → M
  | [], k => k []
  | (i, x) :: xs, k => ev r x fun v => evParts r xs fun vs => k ((i, v) :: vs)

def kindEq : IntKind → IntKind → Bool
  | .i8, .i8 => true | .i16, .i16 => true | .i32, .i32 => true | .i64, .i64 => true
  | .u8, .u8 => true | .u16, .u16 => true | .u32, .u32 => true | .u64, .u64 => true
  | _, _ => false
/-- Two integers. -/
def intM (op : BinOp) (k1 : IntKind) (a : Int) (k2 : IntKind) (b : Int) (k : AV → M) : M :=
  match op with
  | .shr => intOp .shr k1 a b k
  | .shl => .fail
  | op => match kindEq k1 k2 with
    | true => intOp op k1 a b k
    | false => .fail
/-- A value against nil. -/
def nilM (op : BinOp) (b : Bool) (k : AV → M) : M :=
  match op with
  | .eql => k (.c (.bool b))
  | .neq => k (.c (.bool (!b)))
  | _ => .fail
def isPtrT (P : Program) (t : TypeId) : Bool := match P.underlying t with | some (.pointer _) => true | _ => false
def eq1 (P : Program) (t : TypeId) : Option Cell → Option Cell → Option Bool
  | some (.int k a), some (.int k' b) => match P.underlying t with
    | some (.int _) => match kindEq k k' with
      | true => some (a == b)
      | false => none
    | _ => none
  | some c, some d => match P.underlying t, boolOf c, boolOf d with
    | some .bool, some a, some b => some (a == b)
    | _, _, _ => none
  | _, _ => none
def eqFs (P : Program) (sub : TypeId → List Cell → List Cell → Option Bool) (cs ds : List Cell) : List Field → Option Bool
  | [] => some true
  | f :: fs => match decide (f.name = "_"), aggT P f.type with
    | false, some false => match eq1 P f.type cs[f.offset]? ds[f.offset]?, eqFs P sub cs ds fs with
      | some b, some r => some (b && r)
      | _, _ => none
    | false, some true => match sizeT P f.type with
      | some n => match sub f.type ((cs.drop f.offset).take n) ((ds.drop f.offset).take n), eqFs P sub cs ds fs with
        | some b, some r => some (b && r)
        | _, _ => none
      | none => none
    | _, _ => none
/-- Two structs. -/
def eqT (P : Program) : Nat → TypeId → List Cell → List Cell → Option Bool
  | 0, _, _, _ => none
  | d + 1, t, cs, ds => match structT P t, P.stoodInHeld t with
    | some fs, false => eqFs P (eqT P d) cs ds fs
    | _, _ => none
/-- An operation on two values. -/
def binM (P : Program) (op : BinOp) (t : TypeId) (vx vy : AV) (k : AV → M) : M :=
  match vx, vy with
  | .c (.int k1 a), .c (.int k2 b) => intM op k1 a k2 b k
  | .c (.str a), .c (.str b) => strOp op a b k
  | .c (.ptr p), .c (.ptr none) =>
    match isPtrT P t with
    | true => nilM op p.isNone k
    | false => .fail
  | .c (.addr _), .c (.ptr none) =>
    match isPtrT P t with
    | true => nilM op false k
    | false => .fail
  | .c (.sl p _ _), .c (.sl none _ _) =>
    match elemT P t with
    | some _ => nilM op p.isNone k
    | none => .fail
  | .agg cs, .agg ds =>
    match P.eqGuardType P.depth t with
    | false => match eqT P 3 t cs ds with
      | some b => nilM op b k
      | none => .fail
    | true => .fail
  | _, _ => .fail

/-- 'len' and 'cap'. -/
def pureBuiltin (P : Program) (b : Builtin) (args : List Operand) (ts : List TypeId) (r : Regs) (k : AV → M) : M :=
  match b, args, ts with
  | .len, [x], [t] => ev r x fun
    | .c (.sl _ l _) =>
      match elemT P t with
      | some _ => k (.c (.int .i64 l))
      | none => .fail
    | .c (.str s) =>
      match P.underlying t with
      | some .string => k (.c (.int .i64 s.size))
      | _ => .fail
    | _ => .fail
  | .cap, [x], [t] => ev r x fun
    | .c (.sl _ _ c) =>
      match elemT P t with
      | some _ => k (.c (.int .i64 c))
      | none => .fail
    | _ => .fail
  | _, _, _ => .fail

/-- An operation that leaves the world as it is and does not look at it. -/
def pureOp (P : Program) (o : Oper) (r : Regs) (k : AV → M) : M :=
  match o.op with
  | .move x => ev r x k
  | .assign x => ev r x k
  | .pick c a b => ev r c fun
    | .c .tt => ev r a k
    | .c .ff => ev r b k
    | _ => .fail
  | .nilCheck x => ev r x fun
    | .c (.addr p) => k (.c (.addr p))
    | .c (.ptr p) => .nonnil p fun a => k (.c (.addr a))
    | .c (.raw v) => .guard (nilOk v) (k (.c (.raw v)))
    | _ => .fail
  | .fieldAddr s x f => ev r x fun
    | .c (.addr p) =>
      match fieldT P s f with
      | some (off, t) =>
        match sizeT P t with
        | some (_ + 1) => k (.c (.addr (p.1, p.2 + off)))
        | _ => .fail
      | none => .fail
    | _ => .fail
  | .field s x f => ev r x fun
    | .agg cs =>
      match fieldT P s f with
      | some (off, t) =>
        match aggT P t, sizeT P t with
        | some true, some n => k (.agg ((cs.drop off).take n))
        | some false, some _ =>
          match cs[off]? with
          | some c => k (.c c)
          | none => .fail
        | _, _ => .fail
      | none => .fail
    | _ => .fail
  | .indexAddr t x i => ev r x fun
    | .c (.sl p l _) => evInt r i fun n =>
      match elemT P t with
      | some e =>
        match sizeT P e with
        | some sz => .nonnil p fun a => .guard (0 ≤ n ∧ n < l) (k (.c (.addr (a.1, a.2 + mulN n.toNat sz))))
        | none => .fail
      | none => .fail
    | .c (.addr p) => evInt r i fun n =>
      match P.underlying t with
      | some (.array len e) =>
        match sizeT P e with
        | some sz => .guard (0 ≤ n ∧ n < len) (k (.c (.addr (p.1, p.2 + mulN n.toNat sz))))
        | none => .fail
      | _ => .fail
    | _ => .fail
  | .binOp op t x y _ => ev r x fun vx => ev r y fun vy => binM P op t vx vy k
  | .unOp .not _ x => ev r x fun
    | .c (.bool b) => k (.c (.bool (!b)))
    | .c .tt => k (.c .ff)
    | .c .ff => k (.c .tt)
    | _ => .fail
  | .unOp .neg _ x => ev r x fun
    | .c (.int kd n) => .guard (InK kd (0 - n)) (k (.c (.int kd (0 - n))))
    | _ => .fail
  | .convert s t x => ev r x fun
    | .c (.int _ n) =>
      match P.underlying s, intT P t with
      | some _, some kd => .guard (InK kd n) (k (.c (.int kd n)))
      | _, _ => .fail
    | _ => .fail
  | .makeInterface t x => ev r x fun v =>
    match P.underlying t with
    | some (.interface _) => .fail
    | some _ => k (.c (.raw (.iface t v.val)))
    | none => .fail
  | .typeAssert x _ asserted true => ev r x fun
    | .c (.raw (.iface t _)) =>
      match P.underlying asserted, P.info? t, (P.info? asserted).bind (·.zero) with
      | some (.interface want), some i, some z =>
        match want.toList, i.methods.toList, ofV1 z with
        | _ :: _, [], some c => k (.tup [(false, [c]), (false, [.ff])])
        | _, _, _ => .fail
      | _, _, _ => .fail
    | _ => .fail
  | .makeFunc fn first cap => evs r first.toList fun xs => evs r cap.toList fun ys =>
      k (.c (.raw (.func fn (xs.map AV.val).toArray (ys.map AV.val).toArray)))
  | .slice t x lo hi mx => ev r x fun
    | .c (.sl p l c) => evIntO r lo fun a => evIntO r hi fun b => evIntO r mx fun m =>
      match elemT P t with
      | some e =>
        match sizeT P e with
        | some sz => sliceOp p l c sz a b m k
        | none => .fail
      | none => .fail
    | .c (.addr p) => evIntO r lo fun a => evIntO r hi fun b => evIntO r mx fun m =>
      match P.underlying t with
      | some (.array n e) =>
        match sizeT P e with
        | some sz => sliceOp (some p) n n sz a b m k
        | none => .fail
      | _ => .fail
    | _ => .fail
  | .extract x i => ev r x fun
    | .tup vs =>
      match vs[i]? with
      | some (true, cs) => k (.agg cs)
      | some (false, [c]) => k (.c c)
      | _ => .fail
    | _ => .fail
  | .build t parts => evParts r parts.toList fun vs =>
    match structT P t, zeroT P t with
    | some fs, some z =>
      match placesT P fs with
      | some places =>
        match fillC (fun i => places[i]?) z vs with
        | some cells => k (.agg cells)
        | none => .fail
      | none => .fail
    | _, _ => .fail
  | .call c => match c.callee with
    | .builtin b => pureBuiltin P b c.args.toList c.argTypes.toList r k
    | _ => .fail
  | _ => .fail

/-- A load: the cells that it reads are handed on. -/
def loads (p : PA) : (ss : List Sh1) → (List Cell → M) → M
  | [], k => k []
  | s :: ss, k => .load p s fun x => loads (p.1, p.2 + 1) ss fun cs => k (s.mk x :: cs)
def loadOp (P : Program) (t : TypeId) (x : Operand) (r : Regs) (k : PA → AV → M) : M :=
  ev r x fun
    | .c (.addr p) =>
      match shT P t with
      | some (.c s) => .load p s fun x => k p (.c (s.mk x))
      | some (.agg ss) =>
        match sizeT P t with
        | some n =>
          match Nat.beq n ss.length with
          | true => loads p ss fun cs => k p (.agg cs)
          | false => .fail
        | none => .fail
      | none => .fail
    | _ => .fail

def stores (p : PA) : List Cell → M → M
  | [], k => k
  | c :: cs, k => .store p c (stores (p.1, p.2 + 1) cs k)

def resShapes (P : Program) (t : TypeId) : Option (Bool × List Sh) :=
  match P.underlying t with
  | some (.tuple ts) => (ts.toList.mapM (shT P)).map fun ss => (true, ss)
  | _ => (shT P t).map fun s => (false, [s])
def resAV : (tup : Bool) → (ss : List Sh) → SV ss → Option AV
  | true, ss, x => some (.tup (SV.comps ss x))
  | false, [s], x => some (s.mk x.1)
  | false, _, _ => none

def slOf : AV → Option SlT
  | .c (.sl p l c) => some (p, l, c)
  | _ => none

/-- A call. -/
def callOp (P : Program) (c : Callee) (args : List Operand) (ts : List TypeId) (ty : TypeId) (r : Regs) (k : Option AV → M) : M :=
  match c, args, ts with
  | .builtin .append, [d, s], [t, u] => ev r d fun vd => ev r s fun vs =>
    match slOf vd, slOf vs, elemT P t, elemT P u with
    | some d, some s, some e, some _ =>
      match sizeT P e, zeroT P e, bytesT P e with
      | some sz, some z, some byt => .append e sz byt z d s fun s => k (some (.c (.sl s.1 s.2.1 s.2.2)))
      | _, _, _ => .fail
    | _, _, _, _ => .fail
  | .builtin .copy, [d, s], [t, u] => ev r d fun vd => ev r s fun vs =>
    match slOf vd, slOf vs, elemT P t, elemT P u with
    | some d, some s, some e, some _ =>
      match sizeT P e with
      | some sz => .copy sz d s fun n => k (some (.c (.int .i64 n)))
      | none => .fail
    | _, _, _, _ => .fail
  | .value (.func f), args, _ => evs r args fun vs =>
    match (P.funcs[f]?).map (fun fn => fn.body.isSome && fn.name != "runtime.NumGoroutine"), resShapes P ty with
    | some true, some (tup, ss) => .call f vs tup ss fun x => match resAV tup ss x with
      | some v => k (some v)
      | none => .fail
    | _, _ => .fail
  | .value (.tmp t), args, _ => ev r (.tmp t) fun
    | .c (.raw v) => evs r args fun vs =>
      match resShapes P ty with
      | some (tup, ss) => .callv v vs tup ss fun x => match resAV tup ss x with
        | some v => k (some v)
        | none => .fail
      | none => .fail
    | _ => .fail
  | _, _, _ => .fail

/-- An operation that may change the heap. 'k' takes what is laid into its slot. -/
def effOp (P : Program) (o : Oper) (r : Regs) (k : Option AV → M) : M :=
  match o.op with
  | .alloc e =>
    match zeroT P e with
    | some cs => .alloc e cs fun b => k (some (.c (.addr (b, 0))))
    | none => .fail
  | .box e x => ev r x fun v =>
    match isTup v with
    | false => .alloc e (cellsAV v) fun b => k (some (.c (.addr (b, 0))))
    | true => .fail
  | .buildSlice t len parts => evParts r parts.toList fun vs =>
    match elemT P t with
    | some e =>
      match sizeT P e, zeroT P e with
      | some sz, some z =>
        match decide (len * sz ≤ 16777216 ∧ z.length = sz ∧ 0 < sz) with
        | true =>
          match fillC (fun i => some (i * sz, sz)) (rowOf z (len * sz)) vs with
          | some cells => .alloc e cells fun b => k (some (.c (.sl (some (b, 0)) len len)))
          | none => .fail
        | false => .fail
      | _, _ => .fail
    | none => .fail
  | .store t a x => ev r a fun
    | .c (.addr p) => ev r x fun v =>
      match isTup v, sizeT P t with
      | false, some n =>
        match Nat.beq (cellsAV v).length n with
        | true => stores p (cellsAV v) (k none)
        | false => .fail
      | _, _ => .fail
    | _ => .fail
  | .makeSlice t l c => evInt r l fun a => evInt r c fun b =>
    match elemT P t with
    | some e =>
      match sizeT P e, zeroT P e, bytesT P e with
      | some sz, some z, some byt => .make e sz byt z a b fun s => k (some (.c (.sl s.1 s.2.1 s.2.2)))
      | _, _, _ => .fail
    | none => .fail
  | .call c => callOp P c.callee c.args.toList c.argTypes.toList o.type r k
  | _ => .fail

end Go.Proofs.Ytkhpbcckaenmcaa
