/- An evaluator of the model's code over plain values (slices as lists, strings as lists of bytes), for any program; its soundness stands in EvSound. -/
/- The model's code as the evaluator's code: types looked up, notes left out; what the evaluator does not serve is refused. -/
/- What the evaluator's values, boxes and states mean in a world of the model. -/
import Derived.Calls
import Derived.Defers
import Derived.Orders
import Derived.Below
import Derived.KernelRfl
import Derived.Laws.AppendOwn
import Derived.Laws.CopyRow
import Derived.Laws.Rows
import Derived.Maps.AppendAt
import Derived.Deep.Draws
namespace Go.Ev

inductive SV where
  | undef
  | off
  | bool (b : Bool)
  | int (k : IntKind) (n : Int)
  | flt (k : FloatKind) (bits : Nat)
  | str (s : List UInt8)
  | sl (xs : List SV)
  | nilS
  | nil0   -- a slice of no elements that has no room: nil, or not
  | agg (cs : List SV)
  | ref (cs : List SV)
  | nilP
  | iface (t : Nat) (v : SV)
  | nilI
  | fn (f : Nat) (first cap : List SV)
  | nilF
  | tup (vs : List SV)
  | unk   -- a value of one cell of which nothing is told
  deriving Repr, Inhabited

def SV.cells : SV → List SV
  | .agg cs => cs
  | v => [v]

/-- All elements have so many cells. -/
def uni (k : Nat) (xs : List SV) : Bool := xs.all fun v => v.cells.length == k

/-- A cell's plain form: a nil slice is an empty one. -/
def SV.can0 : SV → SV
  | .nilS => .sl []
  | .nil0 => .sl []
  | v => v

def SV.can : SV → SV
  | .nilS => .sl []
  | .nil0 => .sl []
  | .agg cs => .agg (cs.map SV.can0)
  | v => v

inductive AV where
  | sv (v : SV)
  | own (e : Nat) (xs : List SV)
  | ptr (i off : Nat)
  | mrow (i len e : Nat)
  | grw (i len k e : Nat)   -- a slice of a box that may be written and grow: of len elements of k cells, of type e
  | clo (f : Nat) (first cap : List AV)
  deriving Repr, Inhabited

inductive Cell where
  | sv (v : SV)
  | own (e : Nat) (xs : List SV)
  | lnk (j off : Nat)   -- a pointer into a box that may still be written
  | lrw (j n k : Nat)   -- a slice of a box that may still be written
  deriving Repr, Inhabited

def Cell.plain : Cell → SV
  | .sv v => v.can0
  | .own _ xs => .sl xs
  | .lnk _ _ => .ref []
  | .lrw _ _ _ => .unk

inductive Box where
  | live (cs : List Cell)
  | frz (cs : List SV)
  | it (s : List UInt8) (pos : Nat)   -- an iterator over a text
  deriving Repr, Inhabited

inductive Loc where
  | tmp (t : Nat)
  | cell (i off : Nat)
  | ret
  deriving Repr, Inhabited, DecidableEq

inductive Opd where
  | t (n : Nat)
  | c (v : SV)
  | g (n : Nat)
  deriving Repr, Inhabited

inductive NilK where
  | i | p | s | f
  deriving Repr, Inhabited, DecidableEq

inductive AOp where
  | mov (x : Opd)
  | movL (t : Nat)
  | asg (x : Opd)
  | pick (c a b : Opd)
  | load (n : Option Nat) (p : Opd)
  | loadL (p : Opd)
  | store (n : Option Nat) (p v : Opd)
  | storeX (n : Option Nat) (p v : Opd) (ls : List Opd)   -- a store of a plain value into a box that none of these looks into
  | new (zero : List SV)
  | box (n : Nat) (x : Opd)
  | build (zero : List SV) (parts : List (Nat × Nat × Opd))
  | mkSl (e k : Nat) (parts : List Opd)
  | bin (op : BinOp) (x y : Opd)
  | eqB (neg : Bool) (x y : Opd)
  | isNil (k : NilK) (neg : Bool) (x : Opd)
  | not (x : Opd)
  | neg (x : Opd)
  | cpl (x : Opd)
  | i2i (k : IntKind) (x : Opd)
  | i2f (k : FloatKind) (x : Opd)
  | s2s (x : Opd)
  | s2b (x : Opd)
  | s2r (x : Opd)
  | b2s (x : Opd)
  | mkI (t : Nat) (x : Opd)
  | mkF (f : Nat) (first cap : List Opd)
  | mkR (k bytes : Nat) (zero : List SV) (len : Opd)
  | mkC (e k bytes : Nat) (cap : Opd)
  | subS (x : Opd) (lo hi : Option Opd)
  | subL (e : Nat) (x : Opd) (lo hi : Option Opd)
  | fAddr (off : Nat) (p : Opd)
  | fld (off : Nat) (n : Option Nat) (x : Opd)
  | iAddrS (e : Nat) (x i : Opd)
  | iAddrA (len e : Nat) (p i : Opd)
  | idxS (x i : Opd)
  | idxA (len e : Nat) (n : Option Nat) (x i : Opd)
  | ext (x : Opd) (i : Nat)
  | call (f : Opd) (args : List Opd)
  | app (e k bytes : Nat) (d : Option Nat) (a b : Opd)
  | lenS (x : Opd)
  | mm (mx : Bool) (x y : Opd)   -- the greater, or the smaller, of two whole numbers
  | lenL (x : Opd)
  | nilChk (x : Opd)
  | dfr (f : Opd)
  | rngS (x : Opd)
  | nextS (x : Opd)
  | bad
  deriving Repr, Inhabited

structure SOp where
  dst : Option Nat
  op : AOp
  guard : Option (Nat × Bool)
  deriving Repr, Inhabited

inductive ACode where
  | skip
  | region (h : Nat) (ops : List SOp)
  | seq (a b : ACode)
  | cond (c : Opd) (t e : ACode)
  | block (id : Nat) (b : ACode)
  | loop (b : ACode)
  | exit (id : Nat)
  | scope (b : ACode)
  | ret
  | kill (ts : List Nat)
  | bad
  deriving Repr, Inhabited

inductive ARes where
  | tmp (t : Nat)
  | cell (a : Nat) (n : Option Nat)
  deriving Repr, Inhabited

structure AFn where
  ntmps : Nat
  results : List ARes
  body : ACode
  lk : Bool := false   -- pointers that are stored stay live
  mu : List Nat := []   -- types of elements that are written in what was appended to
  deriving Repr, Inhabited

structure St where
  tm : List AV
  lz : Option (Nat × Loc)
  bx : List Box
  df : List Nat
  lk : Bool := false
  mu : List Nat := []
  deriving Repr, Inhabited

structure Env where
  glob : Nat → List SV
  pure : Nat → Option (List SV → Option AV)
  code : Nat → Option AFn
  quiet : Nat → Bool
  look : Nat → Option Nat := fun _ => none   -- a function that answers that cell of the box its argument points to, and does nothing else

/-! ### Reading -/

def St.rd (s : St) (n : Nat) : AV := s.tm.getD n (.sv .undef)

def Opd.ev (E : Env) (s : St) : Opd → AV
  | .t n => s.rd n
  | .c v => .sv v
  | .g n => .sv (.ref (E.glob n))

def AV.sv? : AV → Option SV
  | .sv v => some v
  | _ => none

def AV.elems : AV → Option (List SV)
  | .sv (.sl xs) => some xs
  | .sv .nilS => some []
  | .sv .nil0 => some []
  | .own _ xs => some xs
  | _ => none

def AV.int? : AV → Option (IntKind × Int)
  | .sv (.int k n) => some (k, n)
  | _ => none

def AV.str? : AV → Option (List UInt8)
  | .sv (.str s) => some s
  | _ => none

def AV.bool? : AV → Option Bool
  | .sv (.bool b) => some b
  | _ => none

/-- A copy: what is owned stays with its owner. -/
def AV.copy : AV → AV
  | .own _ xs => .sv (.sl xs)
  | v => v

/-! ### Writing -/

def clearTmp (d : Nat) : Option (Nat × Loc) → Option (Nat × Loc)
  | some (a, l) => if a = d then none else match l with
    | .tmp b => if b = d then none else some (a, l)
    | l => some (a, l)
  | none => none

def St.set (s : St) (d : Nat) (v : AV) : St := { s with tm := s.tm.set d v, lz := clearTmp d s.lz }

def St.put (s : St) : Option Nat → AV → St
  | some d, v => s.set d v
  | none, _ => s

def AV.isOwn : AV → Bool
  | .own .. => true
  | _ => false

/-- What a temporary owned it owns no more. -/
def St.disown (s : St) (t : Nat) : St :=
  match s.rd t with
  | .own _ xs => { s with tm := s.tm.set t (.sv (.sl xs)) }
  | _ => s

def Opd.disown (s : St) : Opd → St
  | .t n => s.disown n
  | _ => s

def Box.cells : Box → List SV
  | .live cs => cs.map Cell.plain
  | .frz cs => cs
  | .it _ _ => []

/-- Cells as elements of k cells. -/
def chunk (k : Nat) : Nat → List SV → List SV
  | 0, _ => []
  | n + 1, cs => (if k = 1 then cs.headD .undef else .agg (cs.take k)) :: chunk k n (cs.drop k)

/-- A value as one that can be shared for good: a box that is pointed to is written no more. -/
def sink (s : St) : AV → Option (SV × St)
  | .sv .undef | .sv .off | .sv (.tup _) => none
  | .sv v => some (v.can, s)
  | .own _ xs => some (.sl xs, s)
  | .ptr i off => match s.bx[i]? with
    | some b => some (.ref (b.cells.drop off), { s with bx := s.bx.set i (.frz b.cells) })
    | none => none
  | .mrow i n e => if e = 1 then match s.bx[i]? with
    | some b => if b.cells.length = n then some (.sl b.cells, { s with bx := s.bx.set i (.frz b.cells) }) else none
    | none => none
    else none
  | .grw i n k _ => match s.bx[i]? with
    | some b => if b.cells.length = n * k then some (.sl (chunk k n b.cells), { s with bx := s.bx.set i (.frz b.cells) }) else none
    | none => none
  | .clo _ _ _ => none

/-- A nil slice stays one in a literal. -/
def keepNil : List AV → List SV → List SV
  | a :: as, v :: vs => (match a with | .sv .nilS => .nilS | .sv .nil0 => .nil0 | _ => v) :: keepNil as vs
  | _, vs => vs

/-- A struct keeps its nil slices. -/
def keepAgg : List AV → List SV → List SV
  | a :: as, v :: vs => (match a with | .sv (.agg cs) => .agg cs | _ => v) :: keepAgg as vs
  | _, vs => vs

/-- In a row whose elements will be written each keeps its nil slices. -/
def keepMu (q : Bool) (mu : List Nat) (e : Nat) (as : List AV) (vs : List SV) : List SV :=
  match q with
  | true => vs
  | false => if mu.contains e then keepAgg as vs else vs

/-- In a region that draws its order no box is frozen. -/
def sinkQ (q : Bool) (s : St) (v : AV) : Option (SV × St) :=
  match q, v with
  | true, .ptr .. | true, .mrow .. | true, .grw .. => none
  | _, _ => sink s v

def sinks (E : Env) (q : Bool) : St → List Opd → Option (List SV × St)
  | s, [] => some ([], s)
  | s, x :: xs => match sinkQ q s (x.ev E s) with
    | some (v, s') => match sinks E q s' xs with
      | some (vs, s'') => some (v :: vs, s'')
      | none => none
    | none => none

/-- What lies in a cell as a pointer or a slice of a box that may still be written. -/
def linkAt (s : St) (n : Option Nat) (p : AV) : Option AV :=
  match n, p with
  | none, .ptr i off => match s.bx[i]? with
    | some (.live cs) => match cs[off]? with
      | some (.lnk j o) => some (.ptr j o)
      | some (.lrw j m k) => some (.mrow j m k)
      | _ => none
    | _ => none
  | _, _ => none

/-- A pointer in a cell of a box, as one that can be shared. -/
def tidy1 (s : St) (i off j o : Nat) : St :=
  match sink s (.ptr j o) with
  | some (w, s') => match s'.bx[i]? with
    | some (.live cs) => match cs[off]? with
      | some (.lnk j' o') => if j' = j ∧ o' = o then { s' with bx := s'.bx.set i (.live (cs.set off (.sv w))), lz := none } else s
      | _ => s
    | _ => s
  | none => s

def tidyR1 (s : St) (i off j n k : Nat) : St :=
  match sink s (.mrow j n k) with
  | some (w, s') => match s'.bx[i]? with
    | some (.live cs) => match cs[off]? with
      | some (.lrw j' n' k') => if j' = j ∧ n' = n ∧ k' = k then { s' with bx := s'.bx.set i (.live (cs.set off (.sv w))), lz := none } else s
      | _ => s
    | _ => s
  | none => s

def tidyCs (i : Nat) : Nat → List Cell → St → St
  | _, [], s => s
  | off, .lnk j o :: cs, s => tidyCs i (off + 1) cs (tidy1 s i off j o)
  | off, .lrw j n k :: cs, s => tidyCs i (off + 1) cs (tidyR1 s i off j n k)
  | off, .sv _ :: cs, s => tidyCs i (off + 1) cs s
  | off, .own _ _ :: cs, s => tidyCs i (off + 1) cs s

def tidyBs : Nat → List Box → St → St
  | _, [], s => s
  | i, .live cs :: bs, s => tidyBs (i + 1) bs (tidyCs i 0 cs s)
  | i, .frz _ :: bs, s => tidyBs (i + 1) bs s
  | i, .it _ _ :: bs, s => tidyBs (i + 1) bs s

/-- Before a struct is read whole, what its links point to is shared (not in a region that draws its order). -/
def tidyAt (q : Bool) (s : St) (n : Option Nat) (p : AV) : St :=
  if s.lk && !q then match n, p with
    | some _, .ptr i _ => match s.bx[i]? with
      | some (.live cs) => tidyCs i 0 cs s
      | _ => s
    | _, _ => s
  else s

/-! ### Operations -/

def binSV (op : BinOp) : SV → SV → Option SV
  | .int k a, .int k' b => match op with
    | .shl => if b < 0 then none else some (.int k (k.wrap (a * 2 ^ (min b.toNat k.bits))))
    | .shr => if b < 0 then none else some (.int k (a.fdiv (2 ^ (min b.toNat k.bits))))
    | _ => if k = k' then match op with
      | .add => some (.int k (k.wrap (a + b)))
      | .sub => some (.int k (k.wrap (a - b)))
      | .mul => some (.int k (k.wrap (a * b)))
      | .quo => if b = 0 then none else some (.int k (k.wrap (a.tdiv b)))
      | .rem => if b = 0 then none else some (.int k (a.tmod b))
      | .and => some (.int k (k.wrap (BitVec.ofInt k.bits a &&& BitVec.ofInt k.bits b).toNat))
      | .or => some (.int k (k.wrap (BitVec.ofInt k.bits a ||| BitVec.ofInt k.bits b).toNat))
      | .xor => some (.int k (k.wrap (BitVec.ofInt k.bits a ^^^ BitVec.ofInt k.bits b).toNat))
      | .andNot => some (.int k (k.wrap (BitVec.ofInt k.bits a &&& ~~~ BitVec.ofInt k.bits b).toNat))
      | .eql => some (.bool (a == b))
      | .neq => some (.bool (a != b))
      | .lss => some (.bool (decide (a < b)))
      | .leq => some (.bool (decide (a ≤ b)))
      | .gtr => some (.bool (decide (a > b)))
      | .geq => some (.bool (decide (a ≥ b)))
      | _ => none
      else none
  | .str a, .str b => match op with
    | .add => if a.length + b.length < 4611686018427387904 then some (.str (a ++ b)) else none
    | .eql => some (.bool (a == b))
    | .neq => some (.bool !(a == b))
    | .lss => some (.bool (Op.bytesLess a b))
    | .leq => some (.bool (Op.bytesLess a b || a == b))
    | .gtr => some (.bool !(Op.bytesLess a b || a == b))
    | .geq => some (.bool !(Op.bytesLess a b))
    | _ => none
  | .flt k a, .flt k' b => if k = k' then match op with
    | .add => (k.format.add a b).map (.flt k)
    | .sub => (k.format.sub a b).map (.flt k)
    | .mul => (k.format.mul a b).map (.flt k)
    | .quo => (k.format.div a b).map (.flt k)
    | .eql => some (.bool (k.format.order a b == some .eq))
    | .neq => some (.bool (k.format.order a b != some .eq))
    | .lss => some (.bool (k.format.order a b == some .lt))
    | .leq => some (.bool (k.format.order a b == some .lt || k.format.order a b == some .eq))
    | .gtr => some (.bool (k.format.order a b == some .gt))
    | .geq => some (.bool (k.format.order a b == some .gt || k.format.order a b == some .eq))
    | _ => none
    else none
  | _, _ => none

/-- Is it nil? (Of an empty slice: no answer.) -/
def AV.nil? : NilK → AV → Option Bool
  | .p, .sv .nilP | .i, .sv .nilI | .f, .sv .nilF | .s, .sv .nilS => some true
  | .i, .sv (.iface ..) | .f, .sv (.fn ..) | .p, .sv (.ref _) | .p, .ptr .. | .s, .mrow .. | .s, .grw .. | .f, .clo .. => some false
  | .s, .sv (.sl xs) => if xs.isEmpty then none else some false
  | .s, .own _ xs => if xs.isEmpty then none else some false
  | _, _ => none

/-- A slice of its parts. One of no parts has no room: it is as good as a nil slice, of which nothing but its emptiness is told. -/
@[simp] def mkSlA : Bool → Nat → List SV → AV
  | false, _, [] => .sv .nil0
  | false, e, x :: l => .own e (x :: l)
  | true, e, l => .own e l

def optInt (E : Env) (s : St) (x : Option Opd) (d : Int) : Option Int :=
  match x with
  | none => some d
  | some o => (o.ev E s).int?.map (·.2)

/-- An index, or a bound, that must lie in 0 .. n. -/
def upTo (n : Nat) (i : Int) : Option Nat := if 0 ≤ i ∧ i ≤ n then some i.toNat else none
def below (n : Nat) (i : Int) : Option Nat := if 0 ≤ i ∧ i < n then some i.toNat else none

def splice (cs : List SV) (off : Nat) (vs : List SV) : List SV := cs.take off ++ vs ++ cs.drop (off + vs.length)

def fillS (cs : List SV) : List (Nat × Nat × SV) → Option (List SV)
  | [] => some cs
  | (off, n, v) :: rest => if v.cells.length = n ∧ off + n ≤ cs.length then fillS (splice cs off v.cells) rest else none

/-- What lies at an address: the cells from there on. -/
def cellsAt (s : St) : AV → Option (List SV)
  | .sv (.ref cs) => some cs
  | .ptr i off => match s.bx[i]? with
    | some (.live cs) => some ((cs.drop off).map fun c => match c with | .sv v => v | .own _ xs => .sl xs | .lnk _ _ => .ref [] | .lrw _ _ _ => .unk)
    | some (.frz cs) => some (cs.drop off)
    | _ => none
  | _ => none

def takeN (n : Option Nat) (cs : List SV) : Option SV :=
  match n with
  | none => match cs with
    | c :: _ => some c
    | [] => none
  | some k => if k ≤ cs.length then some (.agg ((cs.take k).map SV.can0)) else none

def mapOpt {α β : Type} (f : α → Option β) : List α → Option (List β)
  | [] => some []
  | x :: xs => match f x with
    | some y => match mapOpt f xs with
      | some ys => some (y :: ys)
      | none => none
    | none => none

/-- An argument of a call: what is owned stays with the caller. -/
def AV.arg : AV → AV
  | .own _ xs => .sv (.sl xs)
  | .sv v => .sv v.can
  | v => v

def argSV : AV → Option SV
  | .sv v => some v
  | _ => none

def target : AV → Option (Nat × List AV × List AV)
  | .sv (.fn f first cap) => some (f, first.map .sv, cap.map .sv)
  | .clo f first cap => some (f, first, cap)
  | _ => none

abbrev CallF := Nat → List AV → List Box → Option (AV × List Box)

/-- A call of a function that only looks into a box. -/
def doLook (E : Env) (f : Nat) (args : List AV) (bx : List Box) : Option (AV × List Box) :=
  match E.look f with
  | some k => match args with
    | [.ptr i 0] => match bx[i]? with
      | some (.live cs) => match cs[k]? with
        | some (.sv v) => some (.sv v, bx)
        | _ => none
      | _ => none
    | _ => none
  | none => none

/-- A call: by the table of what was proved before; else its own code. -/
def doCall (E : Env) (cf : CallF) (q : Bool) (f : Nat) (args : List AV) (bx : List Box) : Option (AV × List Box) :=
  match E.pure f with
  | some F => match mapOpt argSV args with
    | some vs => match F vs with
      | some r => some (r, bx)
      | none => none
    | none => none
  | none => if q then doLook E f args bx else cf f args bx

def setCells (cs : List Cell) (off : Nat) : List SV → List Cell
  | [] => cs
  | v :: vs => setCells (cs.set off (.sv v)) (off + 1) vs

/-- A store. -/
def doStore (s : St) (n : Option Nat) (p : AV) (v : AV) (x : Opd) : Option St :=
  match p with
  | .ptr i off => match s.bx[i]? with
    | some (.live cs) => match n with
      | none => if off < cs.length then match v with
        | .own e xs => some { (x.disown s) with bx := s.bx.set i (.live (cs.set off (.own e xs))), lz := none }
        | .sv (.agg _) | .sv (.tup _) | .sv .undef | .sv .off => none
        | .sv w => some { s with bx := s.bx.set i (.live (cs.set off (.sv w))), lz := none }
        | .ptr j o => if s.lk then some { s with bx := s.bx.set i (.live (cs.set off (.lnk j o))), lz := none } else match sink s (.ptr j o) with
          | some (w, s') => match s'.bx[i]? with
            | some (.live cs') => if off < cs'.length then some { s' with bx := s'.bx.set i (.live (cs'.set off (.sv w))), lz := none } else none
            | _ => none
          | none => none
        | .mrow j n k => if s.lk then some { s with bx := s.bx.set i (.live (cs.set off (.lrw j n k))), lz := none } else none
        | .grw j n k _ => if s.lk then some { s with bx := s.bx.set i (.live (cs.set off (.lrw j n k))), lz := none } else none
        | _ => none
        else none
      | some k => match v with
        | .sv (.agg vs) => if vs.length = k ∧ off + k ≤ cs.length then some { s with bx := s.bx.set i (.live (setCells cs off vs)), lz := none } else none
        | _ => none
    | _ => none
  | _ => none

def addrPlus (a : AV) (k : Nat) : Option AV :=
  match a with
  | .sv (.ref cs) => some (.sv (.ref (cs.drop k)))
  | .ptr i off => some (.ptr i (off + k))
  | _ => none

def bytesSV (s : List UInt8) : List SV := s.map fun b => .int .u8 b.toNat

def svBytes : List SV → Option (List UInt8)
  | [] => some []
  | .int .u8 n :: rest => match svBytes rest with
    | some l => some (UInt8.ofNat n.toNat :: l)
    | none => none
  | _ => none

/-- What an append appends onto: the owner's list, the type of its elements, and the state in which the owner owns no more. -/
def appBase (E : Env) (s : St) (d : Option Nat) (a : Opd) : Option (List SV × Option Nat × St) :=
  match d, s.lz with
  | some t, some (t', l) => if t = t' then match l with
      | .tmp u => match s.rd u with
        | .own e ys => some (ys, some e, { (s.disown u) with lz := none })
        | .sv .nilS => some ([], none, { s with lz := none })
        | .sv .nil0 => some ([], none, { s with lz := none })
        | _ => none
      | .cell i off => match s.bx[i]? with
        | some (.live cs) => match cs[off]? with
          | some (.own e ys) => some (ys, some e, { s with bx := s.bx.set i (.live (cs.set off (.sv (.sl ys)))), lz := none })
          | some (.sv .nilS) => some ([], none, { s with lz := none })
          | some (.sv .nil0) => some ([], none, { s with lz := none })
          | _ => none
        | _ => none
      | .ret => none
    else none
  | some t, none => match s.rd t with
    | .own e ys => some (ys, some e, s.disown t)
    | .sv .nilS => some ([], none, s)
    | .sv .nil0 => some ([], none, s)
    | _ => none
  | none, _ => match a.ev E s with
    | .sv .nilS => some ([], none, s)
    | .sv .nil0 => some ([], none, s)
    | _ => none

def doApp (E : Env) (s : St) (e k bytes : Nat) (d : Option Nat) (a b : Opd) : Option (AV × St) :=
  match (b.ev E s).elems with
  | some new => match appBase E s d a with
    | some (ys, e', s') =>
      if (ys.length + new.length) * bytes ≤ 140737488355328 ∧ ys.length + new.length ≤ 140737488355328 ∧ (e' = none ∨ e' = some e) ∧ 0 < k ∧ uni k new = true then
        match e', new with
        | none, [] => some (.sv .nil0, s')
        | _, _ => some (.own e (ys ++ new), s')
      else none
    | none => none
  | none => none

/-- An append onto what may be written: what was appended onto is dead. -/
def doAppM (E : Env) (s : St) (e k bytes : Nat) (a b : Opd) : Option (AV × St) :=
  match (b.ev E s).elems with
  | some new => if 0 < new.length ∧ 0 < k ∧ uni k new = true then match a.ev E s with
    | .sv .nilS => if new.length * bytes ≤ 140737488355328 ∧ new.length ≤ 140737488355328 then
        some (.grw s.bx.length new.length k e, { s with bx := s.bx ++ [.live ((new.flatMap SV.cells).map .sv)], lz := none }) else none
    | .sv .nil0 => if new.length * bytes ≤ 140737488355328 ∧ new.length ≤ 140737488355328 then
        some (.grw s.bx.length new.length k e, { s with bx := s.bx ++ [.live ((new.flatMap SV.cells).map .sv)], lz := none }) else none
    | .grw i n k' e' => if k' = k ∧ e' = e ∧ (n + new.length) * bytes ≤ 140737488355328 ∧ n + new.length ≤ 140737488355328 then match s.bx[i]? with
      | some (.live cs) => if cs.length = n * k then
          some (.grw s.bx.length (n + new.length) k e, { s with bx := s.bx.set i (.frz []) ++ [.live ((cs.map Cell.plain ++ new.flatMap SV.cells).map .sv)], lz := none }) else none
      | _ => none
      else none
    | _ => none
    else none
  | none => none

/-- What a temporary held is forgotten. -/
def St.forget (s : St) (t : Nat) : St := { s with tm := s.tm.set t (.sv .undef) }

def St.forgetO (s : St) : Option Nat → St
  | some t => s.forget t
  | none => s

/-- An append in a region that draws its order: onto what a temporary owns, which is looked at no more. -/
def doAppQ (E : Env) (s : St) (e k bytes : Nat) (d : Option Nat) (a b : Opd) : Option (AV × St) :=
  match a with
  | .t t => if d = some t ∧ s.lz = none ∧ (s.rd t).isOwn = true then match doApp E s e k bytes d a b with
      | some (v, _) => some (v, s.forget t)
      | none => none
    else none
  | _ => none

/-- Does it not look into the box? -/
def offBox (j : Nat) : AV → Bool
  | .ptr i _ => i != j
  | .sv (.ref _) => true
  | _ => false

def boxOf : AV → Option Nat
  | .ptr j _ => some j
  | _ => none

/-- One operation: the value that its temporary gets, and the state. -/
def stepV (E : Env) (cf : CallF) (q : Bool) (dst : Option Nat) (s : St) : AOp → Option (AV × St)
  | .mov x => some ((x.ev E s).copy, s)
  | .movL t => match dst with
    | some _ => some ((s.rd t).copy, s)
    | none => none
  | .asg x => match x.ev E s with
    | .own e xs => if q then none else some (.own e xs, x.disown s)
    | v => some (v, s)
  | .pick c a b => match (c.ev E s).bool? with
    | some t => some ((if t then (a.ev E s).copy else (b.ev E s).copy), s)
    | none => none
  | .load n p => match linkAt s n (p.ev E s) with
    | some v => some (v, s)
    | none => match cellsAt (tidyAt q s n (p.ev E s)) (p.ev E s) with
      | some cs => match takeN n cs with
        | some v => some (.sv v, tidyAt q s n (p.ev E s))
        | none => none
      | none => none
  | .loadL p => match cellsAt s (p.ev E s) with
    | some cs => match takeN none cs with
      | some v => some (.sv v, s)
      | none => none
    | none => none
  | .store n p v => match doStore s n (p.ev E s) (v.ev E s) v with
    | some s' => some (.sv .undef, s')
    | none => none
  | .storeX n p v ls => match (v.ev E s).sv?, boxOf (p.ev E s) with
    | some x, some j => if ls.all (fun y => offBox j (y.ev E s)) then match doStore s n (p.ev E s) (.sv x) v with
      | some s' => some (.sv .undef, s')
      | none => none
      else none
    | _, _ => none
  | .new zero => if q then none else some (.ptr s.bx.length 0, { s with bx := s.bx ++ [.live (zero.map .sv)] })
  | .box n x => if q then none else match x.ev E s with
    | .sv .undef | .sv .off | .sv (.tup _) => none
    | .sv v => if v.cells.length = n then some (.ptr s.bx.length 0, { s with bx := s.bx ++ [.live (v.cells.map .sv)] }) else none
    | .own _ xs => if n = 1 then some (.ptr s.bx.length 0, { s with bx := s.bx ++ [.live [.sv (.sl xs)]] }) else none
    | _ => none
  | .build zero parts => match sinks E q s (parts.map (·.2.2)) with
    | some (vs, s') => match fillS zero ((parts.zip (keepNil (parts.map fun p => p.2.2.ev E s) vs)).map fun p => (p.1.1, p.1.2.1, p.2)) with
      | some cs => some (.sv (.agg cs), s')
      | none => none
    | none => none
  | .mkSl e k parts => match sinks E q s parts with
    | some (vs, s') => if uni k (keepMu q s.mu e (parts.map (Opd.ev E s)) vs) then some (mkSlA q e (keepMu q s.mu e (parts.map (Opd.ev E s)) vs), s') else none
    | none => none
  | .bin op x y => match (x.ev E s).sv?, (y.ev E s).sv? with
    | some a, some b => match binSV op a b with
      | some r => some (.sv r, s)
      | none => none
    | _, _ => none
  | .eqB ng x y => match (x.ev E s).bool?, (y.ev E s).bool? with
    | some a, some b => some (.sv (.bool ((a == b) != ng)), s)
    | _, _ => none
  | .isNil k ng x => match (x.ev E s).nil? k with
    | some b => some (.sv (.bool (b != ng)), s)
    | none => none
  | .not x => match (x.ev E s).bool? with
    | some a => some (.sv (.bool !a), s)
    | none => none
  | .neg x => match (x.ev E s).int? with
    | some (k, n) => some (.sv (.int k (k.wrap (0 - n))), s)
    | none => none
  | .cpl x => match (x.ev E s).int? with
    | some (k, n) => some (.sv (.int k (k.wrap (BitVec.ofInt k.bits (if k.signed then -1 else k.max) ^^^ BitVec.ofInt k.bits n).toNat)), s)
    | none => none
  | .bad => none
  | .i2i k x => match (x.ev E s).int? with
    | some (_, n) => some (.sv (.int k (k.wrap n)), s)
    | none => none
  | .i2f k x => match (x.ev E s).int? with
    | some (_, n) => some (.sv (.flt k (k.nearest n)), s)
    | none => none
  | .s2s x => match (x.ev E s).str? with
    | some l => some (.sv (.str l), s)
    | none => none
  | .s2b x => match (x.ev E s).str? with
    | some l => some (.sv (.sl (bytesSV l)), s)
    | none => none
  | .s2r x => match (x.ev E s).str? with
    | some l => if q || l.isEmpty then some (.sv (.sl (bytesSV l)), s) else some (.mrow s.bx.length l.length 1, { s with bx := s.bx ++ [.live ((bytesSV l).map .sv)] })
    | none => none
  | .b2s x => match sinkQ q s (x.ev E s) with
    | some (.sl xs, s') => match svBytes xs with
      | some l => some (.sv (.str l), s')
      | none => none
    | _ => none
  | .mkI t x => match sinkQ q s (x.ev E s) with
    | some (v, s') => some (.sv (.iface t v), s')
    | none => none
  | .mkF f first cap => match mapOpt (fun x => argSV (Opd.ev E s x).arg) first, mapOpt (fun x => argSV (Opd.ev E s x).arg) cap with
    | some a, some b => some (.sv (.fn f a b), s)
    | _, _ => some (.clo f (first.map fun x => (x.ev E s).arg) (cap.map fun x => (x.ev E s).arg), s)
  | .mkR e bytes zero n => if q then none else match (n.ev E s).int? with
    | some (_, k) => if 0 ≤ k ∧ k * bytes ≤ 70368744177664 ∧ k ≤ 70368744177664 ∧ zero.length = e then
        some (.mrow s.bx.length k.toNat e, { s with bx := s.bx ++ [.live ((List.replicate k.toNat zero).flatten.map .sv)] }) else none
    | none => none
  | .mkC e _ bytes n => match (n.ev E s).int? with
    | some (_, k) => if 0 ≤ k ∧ k * bytes ≤ 70368744177664 ∧ k ≤ 70368744177664 then some (.own e [], s) else none
    | none => none
  | .subS x lo hi => match (x.ev E s).str? with
    | some l => match optInt E s hi l.length with
      | some h => match upTo l.length h with
        | some h => match optInt E s lo 0 with
          | some a => match upTo h a with
            | some a => some (.sv (.str ((l.take h).drop a)), s)
            | none => none
          | none => none
        | none => none
      | none => none
    | none => none
  | .subL e x lo hi => match (x.ev E s).elems with
    | some l => match optInt E s hi l.length with
      | some h => match upTo l.length h with
        | some h => match optInt E s lo 0 with
          | some a => match upTo h a with
            | some a => if 0 < e ∧ uni e l = true then some (.sv (.sl ((l.take h).drop a)), s) else none
            | none => none
          | none => none
        | none => none
      | none => none
    | none => none
  | .fAddr off p => match addrPlus (p.ev E s) off with
    | some a => some (a, s)
    | none => none
  | .fld off n x => match x.ev E s with
    | .sv (.agg cs) => match takeN n (cs.drop off) with
      | some v => some (.sv v, s)
      | none => none
    | _ => none
  | .iAddrS e x i => match (i.ev E s).int? with
    | some (_, k) => match x.ev E s with
      | .mrow b n e' => if e = e' then match below n k with
          | some j => some (.ptr b (j * e), s)
          | none => none
        else none
      | .grw b n e' _ => if e = e' then match below n k with
          | some j => some (.ptr b (j * e), s)
          | none => none
        else none
      | v => match v.elems with
        | some xs => match below xs.length k with
          | some j => match xs[j]? with
            | some y => if y.cells.length = e then some (.sv (.ref y.cells), s) else none
            | none => none
          | none => none
        | none => none
    | none => none
  | .iAddrA n e p i => match (i.ev E s).int? with
    | some (_, k) => match below n k with
      | some j => match addrPlus (p.ev E s) (j * e) with
        | some a => some (a, s)
        | none => none
      | none => none
    | none => none
  | .idxS x i => match (x.ev E s).str?, (i.ev E s).int? with
    | some l, some (_, k) => match below l.length k with
      | some j => match l[j]? with
        | some b => some (.sv (.int .u8 b.toNat), s)
        | none => none
      | none => none
    | _, _ => none
  | .idxA len e n x i => match x.ev E s, (i.ev E s).int? with
    | .sv (.agg cs), some (_, k) => match below len k with
      | some j => match takeN n (cs.drop (j * e)) with
        | some v => some (.sv v, s)
        | none => none
      | none => none
    | _, _ => none
  | .ext x i => match x.ev E s with
    | .sv (.tup vs) => match vs[i]? with
      | some v => some (.sv v, s)
      | none => none
    | _ => none
  | .call f args => match target (f.ev E s) with
    | some (k, first, cap) => match doCall E cf q k (first ++ (args.map fun x => (x.ev E s).arg) ++ cap) s.bx with
      | some (r, bx) => some (r, if q then s else { s with bx := bx, lz := if (E.pure k).isSome then s.lz else none })
      | none => none
    | none => none
  | .app e k bytes d a b => if q then doAppQ E s e k bytes d a b else if s.mu.contains e then doAppM E s e k bytes a b else doApp E s e k bytes d a b
  | .mm mx x y => match (x.ev E s).int?, (y.ev E s).int? with
    | some (k, m), some (_, n) => some (.sv (.int k (if (if mx then n > m else n < m) then n else m)), s)
    | _, _ => none
  | .lenS x => match (x.ev E s).str? with
    | some l => some (.sv (.int .i64 l.length), s)
    | none => none
  | .lenL x => match x.ev E s with
    | .mrow _ n _ => some (.sv (.int .i64 n), s)
    | .grw _ n _ _ => some (.sv (.int .i64 n), s)
    | v => match v.elems with
      | some xs => some (.sv (.int .i64 xs.length), s)
      | none => none
  | .nilChk x => match x.ev E s with
    | .ptr i off => some (.ptr i off, s)
    | .sv (.ref cs) => some (.sv (.ref cs), s)
    | _ => none
  | .dfr f => if q then none else match target (f.ev E s) with
    | some (k, _, _) => some (.sv .undef, { s with df := k :: s.df })
    | none => none
  | .rngS x => if q then none else match (x.ev E s).str? with
    | some l => some (.ptr s.bx.length 0, { s with bx := s.bx ++ [.it l 0] })
    | none => none
  | .nextS x => if q then none else match x.ev E s with
    | .ptr i 0 => match s.bx[i]? with
      | some (.it l pos) => match l[pos]? with
        | none => some (.sv (.tup [.bool false]), s)
        | some c => if c.toNat < 128 then some (.sv (.tup [.bool true, .int .i64 pos, .int .i32 c.toNat]), { s with bx := s.bx.set i (.it l (pos + 1)), lz := none }) else none
      | _ => none
    | _ => none

/-- The register of what was read to be appended to. -/
def lazyAfter (E : Env) (s : St) (dst : Option Nat) : AOp → Option (Option (Nat × Loc))
  | .movL t => match dst with
    | some d => if d = t ∨ s.tm.length ≤ d then some none else some (some (d, .tmp t))
    | none => some none
  | .loadL p => match dst, p.ev E s with
    | some d, .ptr i off => if s.tm.length ≤ d then some none else some (some (d, .cell i off))
    | _, _ => some none
  | _ => none

def stepOp (E : Env) (cf : CallF) (q : Bool) (o : SOp) (s : St) : Option St :=
  match stepV E cf q o.dst s o.op with
  | some (v, s') => match lazyAfter E s o.dst o.op with
    | some l => some { (s'.put o.dst v) with lz := l }
    | none => some (s'.put o.dst v)
  | none => none

/-- Is the operation wanted, by its guard? -/
def wants (ops : List SOp) (s : St) (o : SOp) : Option Bool :=
  match o.guard with
  | none => some true
  | some (j, b) => match ops[j]? with
    | some g => match g.dst with
      | some d => match s.rd d with
        | .sv (.bool c) => some (c == b)
        | .sv .off => some false
        | _ => none
      | none => none
    | none => none

/-- What was read to be appended to and is not appended to yet comes into its own, when another is read. -/
def St.settle (s : St) : St :=
  match s.lz with
  | some (d, .tmp u) => match s.rd u with
    | .own e xs => { ((s.disown u).put (some d) (.own e xs)) with lz := none }
    | _ => s
  | _ => s

/-- A row that may grow is shared when it is handed to a call. -/
def St.sinkArg (s : St) : Opd → St
  | .t t => match s.rd t with
    | .grw i n k e => match sink s (.grw i n k e) with
      | some (x, s') => { s' with tm := s'.tm.set t (.sv x) }
      | none => s
    | .mrow i n e => match sink s (.mrow i n e) with
      | some (x, s') => { s' with tm := s'.tm.set t (.sv x) }
      | none => s
    | _ => s
  | _ => s

def St.sinkArgs (s : St) (args : List Opd) : St := args.foldl St.sinkArg s

def pre (q : Bool) (op : AOp) (s : St) : St :=
  match q, op with
  | false, .movL _ => s.settle
  | false, .loadL _ => s.settle
  | false, .call _ args => if s.mu.isEmpty then s else s.sinkArgs args
  | _, _ => s

def opRun (E : Env) (cf : CallF) (q : Bool) (all : List SOp) (o : SOp) (s : St) : Option St :=
  match wants all s o with
  | some true => stepOp E cf q o (pre q o.op s)
  | some false => some (s.put o.dst (.sv .off))
  | none => none

def runOps (E : Env) (cf : CallF) (q : Bool) (all : List SOp) : List SOp → St → Option St
  | [], s => some s
  | o :: rest, s => match opRun E cf q all o s with
    | some s' => runOps E cf q all rest s'
    | none => none

/-- What is looked at no more is forgotten. -/
def St.kill (s : St) (ts : List Nat) : St := { s with tm := ts.foldl (fun l t => l.set t (.sv .undef)) s.tm, lz := none }

inductive AExit where
  | normal
  | exit (id : Nat)
  | ret
  deriving Repr, Inhabited, DecidableEq

/-- Rounds of a loop. -/
def rounds (body : St → Option (AExit × St)) : Nat → St → Option (AExit × St)
  | 0, _ => none
  | n + 1, s => match body s with
    | some (.normal, s') => rounds body n s'
    | r => r

/-- What a head reads whole is settled ahead of it. -/
def tidyHead : List SOp → St → St
  | [], s => s
  | o :: os, s => match o.op with
    | .load (some k) (.t t) => tidyHead os (tidyAt false s (some k) (s.rd t))
    | _ => tidyHead os s

def evC (E : Env) (cf : CallF) (n : Nat) : ACode → St → Option (AExit × St)
  | .skip, s => some (.normal, s)
  | .region h ops, s => match runOps E cf true ops (ops.take h) { (if s.lk then tidyHead (ops.take h) s else s) with lz := none } with
    | some s' => match runOps E cf false ops (ops.drop h) s' with
      | some s'' => some (.normal, s'')
      | none => none
    | none => none
  | .seq a b, s => match evC E cf n a s with
    | some (.normal, s') => evC E cf n b s'
    | r => r
  | .cond c t e, s => match (c.ev E s).bool? with
    | some b => if b then evC E cf n t s else evC E cf n e s
    | none => none
  | .block id b, s => match evC E cf n b s with
    | some (.exit j, s') => if j = id then some (.normal, s') else some (.exit j, s')
    | r => r
  | .loop b, s => rounds (evC E cf n b) n s
  | .exit id, s => some (.exit id, s)
  | .scope b, s => evC E cf n b s
  | .ret, s => some (.ret, s)
  | .kill ts, s => some (.normal, s.kill ts)
  | .bad, _ => none

def resOf (s : St) : ARes → Option AV
  | .tmp t => some (s.rd t)
  | .cell a n => match cellsAt s (s.rd a) with
    | some cs => match takeN n cs with
      | some v => some (.sv v)
      | none => none
    | none => none

/-- Several results: each as one that can be shared. -/
def sinkL : St → List AV → Option (List SV × St)
  | s, [] => some ([], s)
  | s, v :: vs => match sink s v with
    | some (x, s') => match sinkL s' vs with
      | some (xs, s'') => some (x :: xs, s'')
      | none => none
    | none => none

/-- No box points into one that may still be written. -/
def St.tidyIf (b : Bool) (s : St) : St := if b then tidyBs 0 s.bx s else s

def endOf (E : Env) (fn : AFn) (s : St) : Option (AV × St) :=
  if s.df.all E.quiet then
    match mapOpt (resOf (s.tidyIf fn.lk)) fn.results with
    | some [v] => some (v, s.tidyIf fn.lk)
    | some vs => match sinkL (s.tidyIf fn.lk) vs with
      | some (xs, s') => some (.sv (.tup xs), s')
      | none => none
    | none => none
  else none

def enter (fn : AFn) (args : List AV) (bx : List Box) : St :=
  { tm := args ++ List.replicate (fn.ntmps - args.length) (.sv .undef), lz := none, bx := bx, df := [], lk := fn.lk, mu := fn.mu }

/-- A function's own code, in the boxes of its caller. -/
def evF (E : Env) : Nat → CallF
  | 0, _, _, _ => none
  | n + 1, f, args, bx => match E.code f with
    | some fn => match evC E (evF E n) n fn.body (enter fn args bx) with
      | some (.normal, s) | some (.ret, s) => match endOf E fn s with
        | some (v, s') => some (v, s'.bx)
        | none => none
      | _ => none
    | none => none

/-- A function as one that only computes: what it makes it hands back for good. -/
def evP (E : Env) (n : Nat) (f : Nat) (args : List SV) : Option AV :=
  match E.code f with
  | some fn => match evC E (evF E n) n fn.body (enter fn (args.map .sv) []) with
    | some (.normal, s) | some (.ret, s) => match endOf E fn s with
      | some (v, s') => match v with
        | .own e xs => some (.own e xs)
        | .sv x => some (.sv x)
        | v => match sink s' v with
          | some (x, _) => some (.sv x)
          | none => none
      | none => none
    | _ => none
  | none => none

end Go.Ev

namespace Go.Ev

def allSome {α : Type} : List (Option α) → Option (List α)
  | [] => some []
  | some x :: xs => match allSome xs with
    | some ys => some (x :: ys)
    | none => none
  | none :: _ => none

def constSV : Value → Option SV
  | .bool b => some (.bool b)
  | .int k n => some (.int k n)
  | .float k b => some (.flt k b)
  | .string s => some (.str s.data.toList)
  | .pointer none => some .nilP
  | .slice none 0 0 => some .nilS
  | .nilIface => some .nilI
  | .nilFunc => some .nilF
  | _ => none

def opd : Operand → Option Opd
  | .tmp t => some (.t t)
  | .const v => (constSV v).map .c
  | .global g => some (.g g)
  | .func f => some (.c (.fn f [] []))

def opdO : Option Operand → Option (Option Opd)
  | none => some none
  | some v => (opd v).map some

/-- How many cells a value of the type has, if it is a struct or an array. -/
def aggN (P : Program) (t : TypeId) : Option (Option Nat) :=
  match P.underlying t, P.info? t with
  | some (.struct _), some i => some (some i.size)
  | some (.array _ _), some i => some (some i.size)
  | some _, some i => if i.size = 1 then some none else none
  | _, _ => none

def zeroSV (P : Program) (t : TypeId) : Option (List SV) :=
  match P.info? t with
  | some i => match i.zero with
    | some z => allSome (z.cells.toList.map constSV)
    | none => none
  | none => none

/-- Has the type a zero value of its size? -/
def zeroOK (P : Program) (t : TypeId) : Bool :=
  match P.info? t with
  | some i => match i.zero with
    | some z => z.cells.size == i.size
    | none => false
  | none => false

def sizeB (P : Program) (t : TypeId) : Option (Nat × Nat) := (P.info? t).map fun i => (i.size, i.bytes)

/-- Is the temporary what an append of this region appends onto? -/
def appSrc (ops : Array Oper) (d : Option Tmp) : Bool :=
  match d with
  | some d => ops.any fun o => match o.op with
    | .call { callee := .builtin .append, args, .. } => (match args.toList with | Operand.tmp e :: _ => e == d | _ => false)
    | _ => false
  | none => false

/-- Is the temporary given to a variable in this region? -/
def asgSrc (ops : Array Oper) (d : Option Tmp) : Bool :=
  match d with
  | some d => ops.any fun o => match o.op with
    | .assign (.tmp e) => e == d
    | _ => false
  | none => false

def isNilC : NilK → Operand → Bool
  | .i, .const .nilIface | .p, .const (.pointer none) | .s, .const (.slice none 0 0) | .f, .const .nilFunc => true
  | _, _ => false

def nilKind : TypeDesc → Option NilK
  | .interface _ => some .i
  | .pointer _ => some .p
  | .slice _ => some .s
  | .func .. => some .f
  | _ => none

def srcOf : Operand → Option Nat
  | .tmp d => some d
  | _ => none

def cOp (P : Program) (ops : Array Oper) (o : Oper) : Option AOp :=
  match o.op with
  | .move x => match x, appSrc ops o.dst with
    | .tmp t, true => some (.movL t)
    | x, _ => (opd x).map .mov
  | .assign x => (opd x).map .asg
  | .pick c a b => match opd c, opd a, opd b with
    | some c, some a, some b => some (.pick c a b)
    | _, _, _ => none
  | .load t p => match opd p, aggN P t with
    | some p, some none => if appSrc ops o.dst then some (.loadL p) else some (.load none p)
    | some p, some n => some (.load n p)
    | _, _ => none
  | .store t p v => match opd p, opd v, aggN P t with
    | some p, some v, some n => some (.store n p v)
    | _, _, _ => none
  | .alloc t => (zeroSV P t).map .new
  | .box t x => match opd x, P.info? t with
    | some x, some i => some (.box i.size x)
    | _, _ => none
  | .build t parts => match P.underlying t, zeroSV P t with
    | some (.struct fs), some z =>
      match allSome (parts.toList.map fun p => match fs[p.1]?, opd p.2 with
        | some f, some x => (P.info? f.type).map fun i => (f.offset, i.size, x)
        | _, _ => none) with
      | some l => if fs.toList.all (fun f => (P.info? f.type).isSome) then some (.build z l) else none
      | none => none
    | some (.array _ e), some z =>
      match P.info? e, allSome (parts.toList.map fun p => (opd p.2).map fun x => (p.1, x)) with
      | some i, some l => some (.build z (l.map fun p => (p.1 * i.size, i.size, p.2)))
      | _, _ => none
    | _, _ => none
  | .buildSlice t n parts => match P.underlying t with
    | some (.slice e) =>
      match sizeB P e, allSome (parts.toList.map fun p => opd p.2) with
      | some (k, _), some l =>
        if parts.toList.map (·.1) = List.range n ∧ n * k ≤ 16777216 ∧ 0 < k ∧ zeroOK P e = true then some (.mkSl e k l) else none
      | _, _ => none
    | _ => none
  | .binOp op t x y _ => match opd x, opd y, P.underlying t with
    | some a, some b, some (.int _) => some (.bin op a b)
    | some a, some b, some (.float _) => some (.bin op a b)
    | some a, some b, some .string => some (.bin op a b)
    | some a, some b, some .bool => match op with
      | .eql => some (.eqB false a b)
      | .neq => some (.eqB true a b)
      | _ => none
    | some a, some b, some d => match nilKind d with
      | some k => match op, isNilC k x, isNilC k y with
        | .eql, _, true => some (.isNil k false a)
        | .neq, _, true => some (.isNil k true a)
        | .eql, true, false => some (.isNil k false b)
        | .neq, true, false => some (.isNil k true b)
        | _, _, _ => none
      | none => none
    | _, _, _ => none
  | .unOp op _ x => match op, opd x with
    | .not, some a => some (.not a)
    | .neg, some a => some (.neg a)
    | .xor, some a => some (.cpl a)
    | _, _ => none
  | .convert s d x => match opd x, P.underlying s, P.underlying d with
    | some a, some (.int _), some (.int k) => some (.i2i k a)
    | some a, some (.int _), some (.float k) => some (.i2f k a)
    | some a, some .string, some .string => some (.s2s a)
    | some a, some .string, some (.slice e) => match P.underlying e with
      | some (.int .u8) => if asgSrc ops o.dst then some (.s2r a) else some (.s2b a)
      | _ => none
    | some a, some (.slice e), some .string => match P.underlying e with
      | some (.int .u8) => some (.b2s a)
      | _ => none
    | _, _, _ => none
  | .makeInterface t x => match opd x, P.underlying t with
    | some _, some (.interface _) => none
    | some a, some _ => some (.mkI t a)
    | _, _ => none
  | .makeFunc (.func f) first cap => match allSome (first.toList.map opd), allSome (cap.toList.map opd) with
    | some a, some b => some (.mkF f a b)
    | _, _ => none
  | .makeSlice t l c => match P.underlying t with
    | some (.slice e) => match sizeB P e, zeroSV P e, opd l, opd c with
      | some (k, b), some z, some l, some c =>
        if 0 < k then
          match l, c with
          | .t i, .t j => if i = j then some (.mkR k b z (.t i)) else none
          | .c (.int k1 n), .c (.int k2 m) => if k1 = k2 ∧ n = m then some (.mkR k b z (.c (.int k1 n))) else if n = 0 then some (.mkC e k b (.c (.int k2 m))) else none
          | .c (.int _ n), c => if n = 0 then some (.mkC e k b c) else none
          | _, _ => none
        else none
      | _, _, _, _ => none
    | _ => none
  | .slice t x lo hi none =>
    match opd x, opdO lo, opdO hi, P.underlying t with
    | some a, some lo, some hi, some .string => some (.subS a lo hi)
    | some a, some lo, some hi, some (.slice e) => (P.info? e).map fun i => .subL i.size a lo hi
    | _, _, _, _ => none
  | .fieldAddr t p f => match opd p, P.underlying t with
    | some a, some (.struct fs) => match fs[f]? with
      | some g => match P.info? g.type with
        | some i => if i.size = 0 then none else some (.fAddr g.offset a)
        | none => none
      | none => none
    | _, _ => none
  | .field t x f => match opd x, P.underlying t with
    | some a, some (.struct fs) => match fs[f]? with
      | some g => (aggN P g.type).map fun n => .fld g.offset n a
      | none => none
    | _, _ => none
  | .indexAddr t x i => match opd x, opd i, P.underlying t with
    | some a, some b, some (.slice e) => (P.info? e).map fun j => .iAddrS j.size a b
    | some a, some b, some (.array n e) => (P.info? e).map fun j => .iAddrA n j.size a b
    | _, _, _ => none
  | .index t x i => match opd x, opd i, P.underlying t with
    | some a, some b, some .string => some (.idxS a b)
    | some a, some b, some (.array n e) => match P.info? e, aggN P e with
      | some j, some m => some (.idxA n j.size m a b)
      | _, _ => none
    | _, _, _ => none
  | .extract x i => (opd x).map fun a => .ext a i
  | .call c => match allSome (c.args.toList.map opd) with
    | some args => match c.callee with
      | .value f => (opd f).map fun g => .call g args
      | .builtin .len => match args, c.argTypes[0]? with
        | [a], some t => match P.underlying t with
          | some .string => some (.lenS a)
          | some (.slice _) => some (.lenL a)
          | _ => none
        | _, _ => none
      | .builtin .append => match args, c.args.toList, c.argTypes.toList with
        | [a, b], [x, _], [t, u] => match P.underlying t with
          | some (.slice e) => if t = u ∧ zeroOK P e = true then match sizeB P e with
            | some (k, n) => some (.app e k n (srcOf x) a b)
            | none => none
            else none
          | _ => none
        | _, _, _ => none
      | .builtin .max => match args with
        | [a, b] => some (.mm true a b)
        | _ => none
      | .builtin .min => match args with
        | [a, b] => some (.mm false a b)
        | _ => none
      | _ => none
    | none => none
  | .nilCheck x => (opd x).map .nilChk
  | .defer c => match allSome (c.args.toList.map opd), c.callee with
    | some _, .value f => (opd f).map .dfr
    | _, _ => none
  | .range t x => match opd x, P.underlying t with
    | some a, some .string => some (.rngS a)
    | _, _ => none
  | .next x b => if b then (opd x).map .nextS else none
  | _ => none

def cOper (P : Program) (ops : Array Oper) (o : Oper) : Option SOp :=
  some { dst := o.dst, op := (cOp P ops o).getD .bad, guard := o.guard }

/-- Operations that only compute: in a region that draws its order they may come in any order. -/
def headOp : AOp → Bool
  | .store .. | .storeX .. | .new _ | .box .. | .mkR .. | .dfr .. | .rngS _ | .nextS _ => false
  | _ => true

/-- What an operation of a region that draws its order uses up. -/
def AOp.kills : AOp → Option Nat
  | .app _ _ _ _ (.t t) _ => some t
  | _ => none

def lazyOp : AOp → Bool
  | .movL _ | .loadL _ => true
  | _ => false

def Opd.reads : Opd → List Nat
  | .t n => [n]
  | _ => []

/-- The temporaries that an operation looks at. -/
def AOp.reads : AOp → List Nat
  | .mov x | .asg x | .load _ x | .loadL x | .box _ x | .not x | .neg x | .cpl x | .i2i _ x | .i2f _ x | .s2s x | .s2b x | .s2r x | .b2s x | .mkI _ x | .mkR _ _ _ x | .mkC _ _ _ x | .fAddr _ x | .fld _ _ x | .ext x _ | .lenS x | .lenL x | .nilChk x | .dfr x | .rngS x | .nextS x | .isNil _ _ x => x.reads
  | .movL t => [t]
  | .pick c a b => c.reads ++ a.reads ++ b.reads
  | .store _ p v => p.reads ++ v.reads
  | .storeX _ p v ls => p.reads ++ v.reads ++ ls.flatMap Opd.reads
  | .new _ | .bad => []
  | .build _ parts => parts.flatMap fun p => p.2.2.reads
  | .mkSl _ _ parts => parts.flatMap Opd.reads
  | .bin _ x y | .mm _ x y | .eqB _ x y | .iAddrS _ x y | .iAddrA _ _ x y | .idxS x y | .idxA _ _ _ x y | .app _ _ _ _ x y => x.reads ++ y.reads
  | .mkF _ a b => a.flatMap Opd.reads ++ b.flatMap Opd.reads
  | .subS x lo hi | .subL _ x lo hi => x.reads ++ (lo.map Opd.reads).getD [] ++ (hi.map Opd.reads).getD []
  | .call f args => f.reads ++ args.flatMap Opd.reads

/-- What an operation of a region looks at, its guard among it. -/
def SOp.looks (all : List SOp) (o : SOp) : List Nat :=
  o.op.reads ++ (match o.guard with
    | some (j, _) => match all[j]? with
      | some g => match g.dst with
        | some d => [d]
        | none => []
      | none => []
    | none => [])

/-- What must come ahead of an operation: the numbers as bits; none if it waits for a later one. -/
def befores (acc : List Nat) (o : Oper) : Nat :=
  o.after.foldl (fun s e => if Region.binds .any e then s ||| 2 ^ e.on ||| acc.getD e.on 0 else s) 0

def allBefore (ops : List Oper) : List Nat := ops.foldl (fun acc o => acc ++ [befores acc o]) []

/-- Where the order is forced from there on. -/
def tailFrom (bs : List Nat) : Nat := (bs.zipIdx.foldl (fun h p => if p.1 = 2 ^ p.2 - 1 then h else p.2 + 1) 0)

def edgesBack (ops : List Oper) : Bool := ops.zipIdx.all fun p => p.1.after.all fun e => !Region.binds .any e || decide (e.on < p.2)

/-- Is every temporary that is looked at written by none of the head's operations, or by one that must come ahead? -/
def looksOK (head : List SOp) (all : List SOp) (bs : List Nat) : Bool :=
  head.zipIdx.all fun p => (p.1.looks all).all fun t => head.zipIdx.all fun r => r.1.dst != some t || (bs.getD p.2 0).testBit r.2

def dstsOK (head : List SOp) : Bool := head.zipIdx.all fun p => head.zipIdx.all fun r => p.2 == r.2 || p.1.dst == none || p.1.dst != r.1.dst

def lazyOne (head : List SOp) : Bool := head.zipIdx.all fun p => head.zipIdx.all fun r => p.2 == r.2 || !lazyOp p.1.op || !lazyOp r.1.op

/-- What is used up is used up once, without a guard, and nothing else looks at it; then nothing is read to be appended to. -/
def killsOK (head : List SOp) (all : List SOp) : Bool :=
  head.zipIdx.all fun p => match p.1.op.kills with
    | some t => p.1.guard == none && p.1.dst != some t && head.zipIdx.all fun r => !lazyOp r.1.op && (p.2 == r.2 || !(r.1.looks all).contains t)
    | none => true

/-- A new variable is made at any time; nothing of the head looks at it. -/
def newAt (l : List SOp) (bs : List Nat) (g : Nat) : Bool :=
  match l[g]? with
  | some { dst := some d, op := .new _, guard := none } =>
    let head := l.take g
    head.all (fun o => headOp o.op && !lazyOp o.op && o.dst != some d && o.op.kills != some d && !(o.looks l).contains d) && dstsOK head && looksOK head l bs && killsOK head l
  | _ => false

/-- Does it not look into a box? -/
def noBx : AOp → Bool
  | .load .. | .loadL _ | .call .. => false
  | _ => true

/-- A store of a part of an answer at any time: what may come behind it does not look into boxes. -/
def storeAt (l : List SOp) (bs : List Nat) (g : Nat) : Bool :=
  match l[g]? with
  | some { dst := none, op := .store _ p (.t u), guard := none } =>
    let head := l.take g
    head.all (fun o => headOp o.op && !lazyOp o.op && o.op.kills == none) && dstsOK head && looksOK head l bs && killsOK head l &&
      (head.any fun o => o.dst == some u && (match o.op with | .ext _ _ => true | _ => false)) &&
      ((p.reads ++ [u]).all fun t => head.zipIdx.all fun r => r.1.dst != some t || (bs.getD g 0).testBit r.2) &&
      head.zipIdx.all fun r => (bs.getD g 0).testBit r.2 || noBx r.1.op
  | _ => false

/-- A new variable, and behind it the store of what was put together into it, at any time. -/
def new2At (l : List SOp) (bs : List Nat) (g : Nat) : Bool :=
  match l[g]?, l[g + 1]? with
  | some { dst := some d, op := .new _, guard := none }, some { dst := none, op := .store _ (.t d') (.t u), guard := none } =>
    let head := l.take g
    head.all (fun o => headOp o.op && !lazyOp o.op && o.op.kills == none && o.dst != some d && !(o.looks l).contains d) && dstsOK head && looksOK head l bs && killsOK head l &&
      (d == d') && (bs.getD (g + 1) 0).testBit g &&
      (head.any fun o => o.dst == some u && (match o.op with | .build _ _ => true | _ => false)) && (u != d) &&
      (head.zipIdx.all fun r => r.1.dst != some u || (bs.getD (g + 1) 0).testBit r.2) &&
      head.zipIdx.all fun r => (bs.getD (g + 1) 0).testBit r.2 || noBx r.1.op
  | _, _ => false

/-- The pointer of a read of one cell. -/
def loadPtr : AOp → Option Opd
  | .load none x => some x
  | _ => none

/-- A store at any time, ahead of the tail: what may come behind it looks into no box, or reads one cell. -/
def storeFree (l : List SOp) (bs : List Nat) (g : Nat) (p : Opd) (u : Nat) : Bool :=
  let head := l.take g
  head.all (fun o => headOp o.op && !lazyOp o.op && o.op.kills == none) && dstsOK head && looksOK head l bs && killsOK head l &&
    ((p.reads ++ [u]).all fun t => head.zipIdx.all fun r => r.1.dst != some t || (bs.getD g 0).testBit r.2) &&
    head.zipIdx.all fun r => (bs.getD g 0).testBit r.2 || noBx r.1.op || (loadPtr r.1.op).isSome

def freeLoads (l : List SOp) (bs : List Nat) (g : Nat) : List Opd :=
  (l.take g).zipIdx.filterMap fun r => if (bs.getD g 0).testBit r.2 then none else loadPtr r.1.op

/-- The region with its store checked. -/
def drawHeadX (ops : Array Oper) (l : List SOp) : Option (Nat × List SOp) :=
  let bs := allBefore ops.toList
  let h := tailFrom bs
  if edgesBack ops.toList && decide (0 < h) && (l.length == ops.size) && decide (h ≤ l.length) then
    match l[h - 1]? with
    | some { dst := none, op := .store n p (.t u), guard := none } =>
      if storeFree l bs (h - 1) p u then some (h - 1, l.set (h - 1) { dst := none, op := .storeX n p (.t u) (freeLoads l bs (h - 1)), guard := none }) else none
    | _ => none
  else none

/-- A region that draws its order: a head that only computes, at most one read of what is appended to; then a tail whose order is forced. -/
def drawHead (ops : Array Oper) (l : List SOp) : Option Nat :=
  let bs := allBefore ops.toList
  let h := tailFrom bs
  let head := l.take h
  if edgesBack ops.toList && head.all (fun o => headOp o.op) && lazyOne head && dstsOK head && looksOK head l bs && killsOK head l && (l.length == ops.size) && decide (h ≤ l.length) then some h
  else if edgesBack ops.toList && decide (0 < h) && (newAt l bs (h - 1) || storeAt l bs (h - 1)) && (l.length == ops.size) && decide (h ≤ l.length) then some (h - 1)
  else if edgesBack ops.toList && decide (1 < h) && new2At l bs (h - 2) && (l.length == ops.size) && decide (h ≤ l.length) then some (h - 2) else none

def cCode (P : Program) : Code → Option ACode
  | .skip => some .skip
  | .region _ ops draw => match allSome (ops.toList.map (cOper P ops)) with
    | some l => if draw then match drawHead ops l with
      | some h => some (.region h l)
      | none => match drawHeadX ops l with
        | some p => some (.region p.1 p.2)
        | none => some .bad
      else some (.region 0 l)
    | none => none
  | .seq a b => match cCode P a, cCode P b with
    | some a, some b => some (.seq a b)
    | _, _ => none
  | .cond c t e => match opd c, cCode P t, cCode P e with
    | some c, some t, some e => some (.cond c t e)
    | _, _, _ => none
  | .block id b => (cCode P b).map (.block id)
  | .loop b => (cCode P b).map .loop
  | .exit id => some (.exit id)
  | .scope b => (cCode P b).map .scope
  | .label _ => some .skip
  | .ret => some .ret
  | _ => some .bad

/-! ### What is looked at no more -/

def maskOf (l : List Nat) : Nat := l.foldl (fun m t => m ||| 2 ^ t) 0

def bitsOf (n m : Nat) : List Nat := (List.range n).filter fun i => m.testBit i

def without (a b : Nat) : Nat := a ^^^ (a &&& b)

def liveOps (all : List SOp) : List SOp → Nat → Nat
  | [], out => out
  | o :: rest, out =>
    let m := liveOps all rest out
    (match o.dst with | some d => without m (2 ^ d) | none => m) ||| maskOf (o.looks all)

def defsOf (ops : List SOp) : Nat := maskOf (ops.filterMap (·.dst))

def withKill (n m : Nat) (c : ACode) : ACode := if m = 0 then c else .seq (.kill (bitsOf n m)) c

/-- The code with what is dead forgotten, and what is live ahead of it. (Nothing leans on its being right: at worst the evaluator comes to nothing.) -/
def ann (n : Nat) (rt : Nat) : ACode → Nat → List (Nat × Nat) → ACode × Nat
  | .region h ops, out, _ =>
    let inn := liveOps ops ops out
    let dead := without (inn ||| defsOf ops) out
    (if dead = 0 then .region h ops else .seq (.region h ops) (.kill (bitsOf n dead)), inn)
  | .seq a b, out, ex =>
    let rb := ann n rt b out ex
    let ra := ann n rt a rb.2 ex
    (.seq ra.1 rb.1, ra.2)
  | .cond c t e, out, ex =>
    let r1 := ann n rt t out ex
    let r2 := ann n rt e out ex
    let m := r1.2 ||| r2.2 ||| maskOf c.reads
    (.cond c (withKill n (without m r1.2) r1.1) (withKill n (without m r2.2) r2.1), m)
  | .block id b, out, ex =>
    let r := ann n rt b out ((id, out) :: ex)
    (.block id r.1, r.2)
  | .loop b, _, ex =>
    let l1 := (ann n rt b 0 ex).2
    let l2 := (ann n rt b l1 ex).2
    let l3 := (ann n rt b l2 ex).2
    (.loop (ann n rt b l3 ex).1, l3)
  | .exit id, _, ex => (.exit id, (ex.lookup id).getD 0)
  | .scope b, out, ex =>
    let r := ann n rt b out ex
    (.scope r.1, r.2)
  | .ret, _, _ => (.ret, rt)
  | c, out, _ => (c, out)

def resMask (rs : List ARes) : Nat := maskOf (rs.map fun | .tmp t => t | .cell a _ => a)

def cRes (P : Program) : ResultVar → Option ARes
  | .tmp t => some (.tmp t)
  | .cell a t => (aggN P t).map (.cell a)

/-- The pointers in whose boxes something is stored, and the pointers that are stored. -/
def stPtrs : ACode → List Nat × List Nat
  | .region _ ops => ops.foldl (fun (l : List Nat × List Nat) o => match o.op with
      | .store n p v =>
        let l1 := match p with | .t t => (t :: l.1, l.2) | _ => l
        match n, v with | none, .t t => (l1.1, t :: l1.2) | _, _ => l1
      | _ => l) ([], [])
  | .seq a b | .cond _ a b => ((stPtrs a).1 ++ (stPtrs b).1, (stPtrs a).2 ++ (stPtrs b).2)
  | .block _ b | .loop b | .scope b => stPtrs b
  | _ => ([], [])

/-- Is a made row stored? -/
def stRow (ops : List SOp) : Bool := ops.any fun o => match o.op with
  | .store none _ (.t t) => ops.any fun r => r.dst == some t && (match r.op with | .mkR .. => true | _ => false)
  | _ => false

/-- The pointers that are made in the code. -/
def newPtrs : ACode → List Nat
  | .region _ ops => ops.filterMap fun o => match o.op with
      | .new _ | .box .. => o.dst
      | _ => none
  | .seq a b | .cond _ a b => newPtrs a ++ newPtrs b
  | .block _ b | .loop b | .scope b => newPtrs b
  | _ => []

/-- Is stored what was appended to, and may be written? -/
def stApp (mu : List Nat) (ops : List SOp) : Bool := ops.any fun o => match o.op with
  | .store none _ (.t t) => ops.any fun r => r.dst == some t && (match r.op with | .app e _ _ _ _ _ => mu.contains e | _ => false)
  | _ => false

/-- Does a loop store in a box, and store the pointer to it? Or is a made row stored? -/
def lkOf (mu : List Nat) : ACode → Bool
  | .loop b => (let l := stPtrs b; let nw := newPtrs b; l.1.any fun t => l.2.contains t && !nw.contains t) || lkOf mu b
  | .region _ ops => stRow ops || stApp mu ops
  | .seq a b | .cond _ a b => lkOf mu a || lkOf mu b
  | .block _ b | .scope b => lkOf mu b
  | _ => false

/-! ### Rows that are written after an append -/

def opersOf : Code → List Oper
  | .region _ ops _ => ops.toList
  | .seq a b | .cond _ a b => opersOf a ++ opersOf b
  | .block _ b | .loop b | .scope b => opersOf b
  | _ => []

/-- Temporaries that hold the address of an element, or of a part of it, with the element's type. -/
def addrStep (P : Program) (l : List (Nat × Nat)) (o : Oper) : List (Nat × Nat) :=
  match o.dst with
  | some d => match o.op with
    | .indexAddr t _ _ => match P.underlying t with
      | some (.slice e) => (d, e) :: l
      | _ => l
    | .fieldAddr _ (.tmp p) _ | .assign (.tmp p) | .move (.tmp p) | .nilCheck (.tmp p) => match l.lookup p with
      | some e => (d, e) :: l
      | none => l
    | _ => l
  | none => l

def elemsOf (l : List (Nat × Nat)) (xs : List Operand) : List Nat := xs.filterMap fun x => match x with
  | .tmp p => l.lookup p
  | _ => none

/-- Types of elements whose address is stored through, or handed to a call. -/
def addrUses (l : List (Nat × Nat)) (o : Oper) : List Nat :=
  match o.op with
  | .store _ p _ => elemsOf l [p]
  | .call c => match c.callee with
    | .value _ => elemsOf l c.args.toList
    | _ => []
  | _ => []

def appTypes (P : Program) (o : Oper) : List Nat :=
  match o.op with
  | .call c => match c.callee, c.argTypes[0]? with
    | .builtin .append, some t => match P.underlying t with
      | some (.slice e) => [e]
      | _ => []
    | _, _ => []
  | _ => []

def muOf (P : Program) (c : Code) : List Nat :=
  let os := opersOf c
  let ap := os.flatMap (appTypes P)
  if ap.isEmpty then [] else
    let l := os.foldl (addrStep P) (os.foldl (addrStep P) [])
    if l.isEmpty then [] else ((os.flatMap (addrUses l)).filter fun e => ap.contains e).eraseDups

def cFn (P : Program) (f : Func) : Option AFn :=
  match f.body with
  | some c => match cCode P c, allSome (f.results.toList.map (cRes P)) with
    | some b, some r => some { ntmps := f.ntmps, results := r, body := (ann f.ntmps (resMask r) b (resMask r) []).1, lk := lkOf (muOf P c) b, mu := muOf P c }
    | _, _ => none
  | none => none

/-- For a look: which operations are refused. -/
def refused (P : Program) : Code → List String
  | .region id ops draw => (ops.toList.filterMap fun o => if (cOp P ops o).isSome then none else some ("op " ++ o.pos)) ++
      (match allSome (ops.toList.map (cOper P ops)) with
       | some l => if !draw || (drawHead ops l).isSome || (drawHeadX ops l).isSome then [] else ["draw " ++ toString id ++ " " ++ (ops.getD 0 default).pos]
       | none => [])
  | .seq a b => refused P a ++ refused P b
  | .cond _ t e => refused P t ++ refused P e
  | .block _ b | .loop b | .scope b => refused P b
  | .goto _ => ["goto"]
  | .refuse w => ["refuse " ++ w]
  | .rangeFunc .. => ["rangeFunc"]
  | _ => []

end Go.Ev

namespace Go.Ev

abbrev Frz := Nat → Nat → Value → Prop

def SV.one : SV → Bool
  | .undef | .off | .agg _ | .tup _ => false
  | _ => true

def flat (xs : List SV) : List SV := xs.flatMap SV.cells

theorem flat_cons (x : SV) (xs : List SV) : flat (x :: xs) = x.cells ++ flat xs := rfl
theorem flat_append (xs ys : List SV) : flat (xs ++ ys) = flat xs ++ flat ys := by simp [flat]

theorem flat_length {k : Nat} : ∀ {xs : List SV}, (∀ x ∈ xs, x.cells.length = k) → (flat xs).length = xs.length * k
  | [], _ => by simp [flat]
  | x :: xs, h => by
    rw [flat_cons, List.length_append, h x (by simp), flat_length (fun y hy => h y (by simp [hy]))]
    simp [Nat.add_mul, Nat.add_comm]

theorem flat_get {k : Nat} : ∀ {xs : List SV}, (∀ x ∈ xs, x.cells.length = k) → ∀ {i : Nat} {x : SV}, xs[i]? = some x → ∀ {j : Nat}, j < k → (flat xs)[i * k + j]? = x.cells[j]?
  | [], _, i, x, h, _, _ => by simp at h
  | y :: ys, hl, 0, x, h, j, hj => by
    simp at h; subst h
    rw [flat_cons, List.getElem?_append_left (by rw [hl _ (by simp)]; omega)]
    simp
  | y :: ys, hl, i + 1, x, h, j, hj => by
    rw [flat_cons, List.getElem?_append_right (by rw [hl y (by simp), Nat.add_mul]; omega), hl y (by simp)]
    rw [show (i + 1) * k + j - k = i * k + j from by rw [Nat.add_mul]; omega]
    exact flat_get (fun z hz => hl z (by simp [hz])) (by simpa using h) hj

theorem flat_take {k : Nat} : ∀ {xs : List SV} (n : Nat), (∀ x ∈ xs, x.cells.length = k) → flat (xs.take n) = (flat xs).take (n * k)
  | [], n, _ => by simp [flat]
  | x :: xs, 0, _ => by simp [flat]
  | x :: xs, n + 1, h => by
    rw [List.take_succ_cons, flat_cons, flat_cons, flat_take n (fun y hy => h y (by simp [hy])),
      show (n + 1) * k = x.cells.length + n * k from by rw [h x (by simp), Nat.add_mul]; omega, List.take_length_add_append]

theorem flat_drop {k : Nat} : ∀ {xs : List SV} (n : Nat), (∀ x ∈ xs, x.cells.length = k) → flat (xs.drop n) = (flat xs).drop (n * k)
  | [], n, _ => by simp [flat]
  | x :: xs, 0, _ => by simp
  | x :: xs, n + 1, h => by
    rw [List.drop_succ_cons, flat_cons, flat_drop n (fun y hy => h y (by simp [hy])),
      show (n + 1) * k = x.cells.length + n * k from by rw [h x (by simp), Nat.add_mul]; omega, List.drop_length_add_append]

inductive RepS (F : Frz) : SV → Value → Prop
  | undef (u : Value) : RepS F .undef u
  | off : RepS F .off Go.undef
  | bool (b : Bool) : RepS F (.bool b) (.bool b)
  | int (k : IntKind) (n : Int) : RepS F (.int k n) (.int k n)
  | flt (k : FloatKind) (b : Nat) : RepS F (.flt k b) (.float k b)
  | str (s : List UInt8) : RepS F (.str s) (.string ⟨s.toArray⟩)
  | nilS : RepS F .nilS (.slice none 0 0)
  | nil0 (a : Option Addr) : RepS F .nil0 (.slice a 0 0)
  | slE (a : Option Addr) (c : Nat) : RepS F (.sl []) (.slice a 0 c)
  | sl (xs : List SV) (b o c k : Nat) (vs : Nat → Value) (hk : 0 < k) (hne : xs ≠ []) (hc : xs.length ≤ c) (hl : ∀ x ∈ xs, x.cells.length = k)
      (hF : ∀ j, j < xs.length * k → F b (o + j) (vs j)) (ho : ∀ (j : Nat) (x : SV), (flat xs)[j]? = some x → x.one = true)
      (hr : ∀ (j : Nat) (x : SV), (flat xs)[j]? = some x → RepS F x (vs j)) : RepS F (.sl xs) (.slice (some ⟨b, o, none⟩) xs.length c)
  | agg (cs : List SV) (vs : Array Value) (hs : vs.size = cs.length) (ho : ∀ (j : Nat) (x : SV), cs[j]? = some x → x.one = true)
      (hr : ∀ (j : Nat) (x : SV), cs[j]? = some x → RepS F x (vs.getD j undef)) : RepS F (.agg cs) (.agg vs)
  | ref (cs : List SV) (b o : Nat) (vs : Nat → Value) (hF : ∀ j, j < cs.length → F b (o + j) (vs j)) (ho : ∀ (j : Nat) (x : SV), cs[j]? = some x → x.one = true)
      (hr : ∀ (j : Nat) (x : SV), cs[j]? = some x → RepS F x (vs j)) : RepS F (.ref cs) (.pointer (some ⟨b, o, none⟩))
  | nilP : RepS F .nilP (.pointer none)
  | iface (t : Nat) (v : SV) (u : Value) (h : RepS F v u) : RepS F (.iface t v) (.iface t u)
  | nilI : RepS F .nilI .nilIface
  | fn (f : Nat) (a b : List SV) (va vb : Array Value) (ha : va.size = a.length) (hb : vb.size = b.length)
      (ra : ∀ (j : Nat) (x : SV), a[j]? = some x → RepS F x (va.getD j undef)) (rb : ∀ (j : Nat) (x : SV), b[j]? = some x → RepS F x (vb.getD j undef)) :
      RepS F (.fn f a b) (.func (.func f) va vb)
  | nilF : RepS F .nilF .nilFunc
  | tup (l : List SV) (vs : Array Value) (hs : vs.size = l.length) (hr : ∀ (j : Nat) (x : SV), l[j]? = some x → RepS F x (vs.getD j undef)) : RepS F (.tup l) (.tuple vs)
  | unk (u : Value) (h1 : u.oneCell' = true) (h2 : u.cells = #[u]) : RepS F .unk u

theorem RepS.mono {F F' : Frz} (hF : ∀ b o v, F b o v → F' b o v) {x : SV} {v : Value} (h : RepS F x v) : RepS F' x v := by
  induction h with
  | undef u => exact .undef u
  | off => exact .off
  | bool b => exact .bool b
  | int k n => exact .int k n
  | flt k b => exact .flt k b
  | str s => exact .str s
  | nilS => exact .nilS
  | nil0 a => exact .nil0 a
  | slE a c => exact .slE a c
  | sl xs b o c k vs hk hne hc hl hf ho _ ih => exact .sl xs b o c k vs hk hne hc hl (fun j hj => hF _ _ _ (hf j hj)) ho ih
  | agg cs vs hs ho _ ih => exact .agg cs vs hs ho ih
  | ref cs b o vs hf ho _ ih => exact .ref cs b o vs (fun j hj => hF _ _ _ (hf j hj)) ho ih
  | nilP => exact .nilP
  | iface t v u _ ih => exact .iface t v u ih
  | nilI => exact .nilI
  | fn f a b va vb ha hb _ _ ia ib => exact .fn f a b va vb ha hb ia ib
  | nilF => exact .nilF
  | tup l vs hs _ ih => exact .tup l vs hs ih
  | unk u h1 h2 => exact .unk u h1 h2

theorem RepS.oneCell {F : Frz} {x : SV} {v : Value} (h : RepS F x v) (ho : x.one = true) : v.oneCell' = true := by
  cases h <;> first | rfl | assumption | (simp [SV.one] at ho)

theorem RepS.cells_one {F : Frz} {x : SV} {v : Value} (h : RepS F x v) (ho : x.one = true) : v.cells = #[v] := by
  cases h <;> first | rfl | assumption | (simp [SV.one] at ho)

theorem SV.cells_one {x : SV} (ho : x.one = true) : x.cells = [x] := by
  cases x <;> first | rfl | (simp [SV.one] at ho)

theorem SV.can0_one {x : SV} (ho : x.one = true) : x.can0.one = true := by
  cases x <;> first | exact ho | rfl

theorem RepS.can0 {F : Frz} {x : SV} {v : Value} (h : RepS F x v) : RepS F x.can0 v := by
  cases h <;> first | exact .slE _ _ | (constructor <;> assumption)

theorem RepS.can {F : Frz} {x : SV} {v : Value} (h : RepS F x v) : RepS F x.can v := by
  cases h with
  | nilS => exact .slE _ _
  | nil0 a => exact .slE _ _
  | agg cs vs hs ho hr =>
    refine .agg _ vs (by simp [hs]) (fun j x hx => ?_) (fun j x hx => ?_)
    · rw [List.getElem?_map] at hx
      obtain ⟨y, hy, rfl⟩ := Option.map_eq_some_iff.1 hx
      exact SV.can0_one (ho j y hy)
    · rw [List.getElem?_map] at hx
      obtain ⟨y, hy, rfl⟩ := Option.map_eq_some_iff.1 hx
      exact (hr j y hy).can0
  | _ => first | exact .undef _ | exact .off | (constructor <;> assumption)

/-- What the proofs know of the world beside it: the cells that stay for good, the boxes' blocks, who may append to a block. -/
structure Gh where
  F : Frz
  β : List Nat
  ow : Nat → Option Loc
  sh : Nat → Option (Nat × Nat)   -- a block that may grow: the elements' type, for how many there is room

def RepO (P : Program) (γ : Gh) (w : World) (ℓ : Loc) (e : Nat) (xs : List SV) (u : Value) : Prop :=
  ∃ (vs : List Value) (g : Nat), w.ownsRow 0 e (P.cellsOf e) u xs.length vs ∧ 0 < P.cellsOf e ∧ (∀ x ∈ xs, x.cells.length = P.cellsOf e) ∧
    (∀ (j : Nat) (x : SV), (flat xs)[j]? = some x → x.one = true ∧ ∃ v, vs[j]? = some v ∧ RepS γ.F x v) ∧
    u.ownBlock = some g ∧ γ.ow g = some ℓ ∧ (∀ (j : Nat) (v : Value), vs[j]? = some v → γ.F g j v) ∧ ∀ j v, γ.F g j v → j < vs.length

inductive RepA (P : Program) (γ : Gh) (w : World) : Loc → AV → Value → Prop
  | sv (ℓ : Loc) (v : SV) (u : Value) (h : RepS γ.F v u) : RepA P γ w ℓ (.sv v) u
  | own (ℓ : Loc) (e : Nat) (xs : List SV) (u : Value) (h : RepO P γ w ℓ e xs u) : RepA P γ w ℓ (.own e xs) u
  | ptr (ℓ : Loc) (i off b : Nat) (h : γ.β[i]? = some b) : RepA P γ w ℓ (.ptr i off) (.pointer (some ⟨b, off, none⟩))
  | mrow (ℓ : Loc) (i n k b c : Nat) (h : γ.β[i]? = some b) (hc : n ≤ c) : RepA P γ w ℓ (.mrow i n k) (.slice (some ⟨b, 0, none⟩) n c)
  | grw (ℓ : Loc) (i n k e b c : Nat) (h : γ.β[i]? = some b) (hs : γ.sh b = some (e, c)) (hc : n ≤ c) (hk : P.cellsOf e = k) (hk0 : 0 < k) : RepA P γ w ℓ (.grw i n k e) (.slice (some ⟨b, 0, none⟩) n c)
  | clo (ℓ : Loc) (f : Nat) (a b : List AV) (va vb : Array Value) (ha : va.size = a.length) (hb : vb.size = b.length)
      (oa : ∀ (j : Nat) (x : AV), a[j]? = some x → x.isOwn = false) (ob : ∀ (j : Nat) (x : AV), b[j]? = some x → x.isOwn = false)
      (ra : ∀ (j : Nat) (x : AV), a[j]? = some x → RepA P γ w ℓ x (va.getD j undef)) (rb : ∀ (j : Nat) (x : AV), b[j]? = some x → RepA P γ w ℓ x (vb.getD j undef)) :
      RepA P γ w ℓ (.clo f a b) (.func (.func f) va vb)

def RepC (P : Program) (γ : Gh) (w : World) (i j : Nat) : Cell → Value → Prop
  | .sv v, u => v.one = true ∧ RepS γ.F v u
  | .own e xs, u => RepO P γ w (.cell i j) e xs u
  | .lnk j o, u => ∃ b, γ.β[j]? = some b ∧ u = .pointer (some ⟨b, o, none⟩)
  | .lrw j n _, u => ∃ b c, γ.β[j]? = some b ∧ n ≤ c ∧ u = .slice (some ⟨b, 0, none⟩) n c

/-- A block's first cells may be written. -/
def Free (m : Nat × Nat) (n : Nat) : Prop := ∀ j, j < n → ¬ (m.1 ≤ j ∧ j < m.2)

theorem free00 (n : Nat) : Free (0, 0) n := fun j _ h => by simp at h

/-- What box number i is in the block blk. -/
def RepB (P : Program) (γ : Gh) (w : World) (i blk : Nat) : Box → Prop
  | .live cs => ∃ arr t m, w.heap[blk]? = some (.cells arr t m) ∧ (cs.length ≤ arr.size ∧ Free m cs.length) ∧
      (∀ (j : Nat) (c : Cell), cs[j]? = some c → RepC P γ w i j c (arr.getD j undef)) ∧ ∀ o v, ¬ γ.F blk o v
  | .frz cs => blk < w.heap.size ∧ ∃ arr : Array Value, cs.length ≤ arr.size ∧
      ∀ (j : Nat) (x : SV), cs[j]? = some x → x.one = true ∧ γ.F blk j (arr.getD j undef) ∧ RepS γ.F x (arr.getD j undef)
  | .it l pos => w.heap[blk]? = some (.stringIter ⟨l.toArray⟩ pos)

structure BoxesOK (P : Program) (γ : Gh) (w : World) (bx : List Box) : Prop where
  len : γ.β.length = bx.length
  box : ∀ (i : Nat) (b : Box) (blk : Nat), bx[i]? = some b → γ.β[i]? = some blk → RepB P γ w i blk b
  nodup : ∀ (i j b : Nat), γ.β[i]? = some b → γ.β[j]? = some b → i = j ∨ bx[i]? = some (.frz []) ∨ bx[j]? = some (.frz [])
  Fw : ∀ b o v, γ.F b o v → w.cell? ⟨b, o, none⟩ = some v
  ow : ∀ b ℓ, γ.ow b = some ℓ → b < w.heap.size ∧ b ∉ γ.β
  sh : ∀ b e c, γ.sh b = some (e, c) → b ∈ γ.β ∧ ∃ cur, w.heap[b]? = some (.cells cur e (0, 0)) ∧ cur.size = c * P.cellsOf e ∧ c ≤ maxLen

/-- What lies at a place that is read to be appended to. -/
def AtLoc (γ : Gh) (a : Act) (w : World) (u : Value) : Loc → Prop
  | .tmp t => a.tmps.getD t undef = u
  | .cell i off => ∃ b, γ.β[i]? = some b ∧ w.cell? ⟨b, off, none⟩ = some u
  | .ret => True

def RepD (d : Nat) (c : Deferred) : Prop := ∃ cap, c.target = .fn (.func d) cap

structure R (P : Program) (γ : Gh) (a : Act) (w : World) (s : St) : Prop where
  bx : BoxesOK P γ w s.bx
  sz : a.tmps.size = s.tm.length
  tm : ∀ t, t < s.tm.length → RepA P γ w (.tmp t) (s.rd t) (a.tmps.getD t undef)
  lz : ∀ d ℓ, s.lz = some (d, ℓ) → AtLoc γ a w (a.tmps.getD d undef) ℓ
  dl : s.df.length = a.defers.length
  df : ∀ (i : Nat) (d : Nat) (c : Deferred), s.df[i]? = some d → a.defers[i]? = some c → RepD d c

/-- A block that is none of ours. -/
def Foreign (γ : Gh) (w : World) (b : Nat) : Prop := b < w.heap.size ∧ b ∉ γ.β ∧ γ.ow b = none

structure Ext (γ : Gh) (w : World) (γ' : Gh) (w' : World) : Prop where
  os : w'.os = w.os
  tape : w'.tape = w.tape
  output : w'.output = w.output
  size : w.heap.size ≤ w'.heap.size
  F : ∀ b o v, γ.F b o v → γ'.F b o v
  β : ∃ l, γ'.β = γ.β ++ l ∧ ∀ b ∈ l, w.heap.size ≤ b ∨ b ∈ γ.β
  blk : ∀ b, Foreign γ w b → w'.heap[b]? = w.heap[b]?
  Fnew : ∀ b o v, Foreign γ w b → γ'.F b o v → γ.F b o v
  own : ∀ b, Foreign γ w b → γ'.ow b = none
  sh : ∀ b x, γ.sh b = some x → γ'.sh b = some x

theorem Ext.refl (γ : Gh) (w : World) : Ext γ w γ w :=
  ⟨rfl, rfl, rfl, Nat.le_refl _, fun _ _ _ h => h, ⟨[], by simp, by simp⟩, fun _ _ => rfl, fun _ _ _ _ h => h, fun _ h => h.2.2, fun _ _ h => h⟩

theorem Ext.foreign {γ γ' : Gh} {w w' : World} (h : Ext γ w γ' w') {b : Nat} (hb : Foreign γ w b) : Foreign γ' w' b := by
  refine ⟨Nat.lt_of_lt_of_le hb.1 h.size, ?_, h.own b hb⟩
  obtain ⟨l, hl, hn⟩ := h.β
  rw [hl, List.mem_append]
  rintro (hm | hm)
  · exact hb.2.1 hm
  · rcases hn b hm with h2 | h2
    · have := hb.1
      omega
    · exact hb.2.1 h2

theorem Ext.trans {γ γ' γ'' : Gh} {w w' w'' : World} (h : Ext γ w γ' w') (k : Ext γ' w' γ'' w'') : Ext γ w γ'' w'' where
  os := k.os.trans h.os
  tape := k.tape.trans h.tape
  output := k.output.trans h.output
  size := Nat.le_trans h.size k.size
  F := fun b o v hf => k.F _ _ _ (h.F _ _ _ hf)
  β := by
    obtain ⟨l, hl, hn⟩ := h.β
    obtain ⟨l', hl', hn'⟩ := k.β
    refine ⟨l ++ l', by rw [hl', hl, List.append_assoc], fun b hb => ?_⟩
    rcases List.mem_append.1 hb with hb | hb
    · exact hn b hb
    · rcases hn' b hb with h2 | h2
      · exact .inl (Nat.le_trans h.size h2)
      · rw [hl] at h2
        rcases List.mem_append.1 h2 with h2 | h2
        · exact .inr h2
        · exact hn b h2
  blk := fun b hb => (k.blk b (h.foreign hb)).trans (h.blk b hb)
  Fnew := fun b o v hb hf => h.Fnew b o v hb (k.Fnew b o v (h.foreign hb) hf)
  own := fun b hb => k.own b (h.foreign hb)
  sh := fun b x hx => k.sh b x (h.sh b x hx)

end Go.Ev
