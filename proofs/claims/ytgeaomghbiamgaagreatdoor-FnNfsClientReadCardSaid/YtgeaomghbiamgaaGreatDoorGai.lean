/- The evaluator over a short state: a list of the temporaries that hold something; what it answers the evaluator answers. -/
/- A function's own code in its caller's boxes, over short states. -/
import Derived.Test.YtgeaomghbiamgaaGreatDoorGah
set_option linter.unusedSimpArgs false
set_option linter.unusedVariables false
namespace Go.Ev

/-- Temporaries that hold something, by their numbers, the latest first. -/
structure SA where
  nt : Nat
  tm : List (Nat × AV)
  lz : Option (Nat × Loc)
  bx : List Box
  df : List Nat
  lk : Bool := false
  mu : List Nat := []

def lookA (t : Nat) : List (Nat × AV) → AV
  | [] => .sv .undef
  | (k, x) :: l => if k = t then x else lookA t l

def insA (d : Nat) (v : AV) : List (Nat × AV) → List (Nat × AV)
  | [] => [(d, v)]
  | (k, x) :: l => if k < d then (d, v) :: (k, x) :: l else if k = d then (d, v) :: l else (k, x) :: insA d v l

def delA (d : Nat) : List (Nat × AV) → List (Nat × AV)
  | [] => []
  | (k, x) :: l => if k = d then delA d l else (k, x) :: delA d l

def SA.rd (s : SA) (t : Nat) : AV := if t < s.nt then lookA t s.tm else .sv .undef

def SA.set (s : SA) (d : Nat) (v : AV) : SA := { s with tm := insA d v s.tm, lz := clearTmp d s.lz }

def SA.kill (s : SA) (ts : List Nat) : SA := { s with tm := ts.foldl (fun l t => delA t l) s.tm, lz := none }

def roundsA (body : SA → Option (AExit × SA)) : Nat → SA → Option (AExit × SA)
  | 0, _ => none
  | n + 1, s => match body s with
    | some (.normal, s') => roundsA body n s'
    | r => r

def Opd.evA (E : Env) (s : SA) : Opd → AV
  | .t n => s.rd n
  | .c v => .sv v
  | .g n => .sv (.ref (E.glob n))

def SA.put (s : SA) : Option Nat → AV → SA
  | some d, v => s.set d v
  | none, _ => s

def SA.disown (s : SA) (t : Nat) : SA :=
  match s.rd t with
  | .own _ xs => { s with tm := insA t (.sv (.sl xs)) s.tm }
  | _ => s

def Opd.disownA (s : SA) : Opd → SA
  | .t n => s.disown n
  | _ => s

def sinkA (s : SA) : AV → Option (SV × SA)
  | .sv .undef | .sv .off | .sv (.tup _) => none
  | .sv v => some (v.can, s)
  | .own _ xs => some (.sl xs, s)
  | .ptr i off => match s.bx[i]? with
    | some b => some (.ref (b.cells.drop off), { s with bx := s.bx.set i (.frz b.cells) })
    | none => none
  | .mrow i n e => if e = 1 then match s.bx[i]? with
    | some b => if b.cells.length = n then some (.sl b.cells, { s with bx := s.bx.set i (.frz b.cells) }) else none
    | none => none
    else none
  | .grw i n k _ => match s.bx[i]? with
    | some b => if b.cells.length = n * k then some (.sl (chunk k n b.cells), { s with bx := s.bx.set i (.frz b.cells) }) else none
    | none => none
  | .clo _ _ _ => none

def sinkQA (q : Bool) (s : SA) (v : AV) : Option (SV × SA) :=
  match q, v with
  | true, .ptr .. | true, .mrow .. | true, .grw .. => none
  | _, _ => sinkA s v

def sinksA (E : Env) (q : Bool) : SA → List Opd → Option (List SV × SA)
  | s, [] => some ([], s)
  | s, x :: xs => match sinkQA q s (x.evA E s) with
    | some (v, s') => match sinksA E q s' xs with
      | some (vs, s'') => some (v :: vs, s'')
      | none => none
    | none => none

def optIntA (E : Env) (s : SA) (x : Option Opd) (d : Int) : Option Int :=
  match x with
  | none => some d
  | some o => (o.evA E s).int?.map (·.2)

def cellsAtA (s : SA) : AV → Option (List SV)
  | .sv (.ref cs) => some cs
  | .ptr i off => match s.bx[i]? with
    | some (.live cs) => some ((cs.drop off).map fun c => match c with | .sv v => v | .own _ xs => .sl xs | .lnk _ _ => .ref [] | .lrw _ _ _ => .unk)
    | some (.frz cs) => some (cs.drop off)
    | _ => none
  | _ => none

def linkAtA (s : SA) (n : Option Nat) (p : AV) : Option AV :=
  match n, p with
  | none, .ptr i off => match s.bx[i]? with
    | some (.live cs) => match cs[off]? with
      | some (.lnk j o) => some (.ptr j o)
      | some (.lrw j m k) => some (.mrow j m k)
      | _ => none
    | _ => none
  | _, _ => none

def tidy1A (s : SA) (i off j o : Nat) : SA :=
  match sinkA s (.ptr j o) with
  | some (w, s') => match s'.bx[i]? with
    | some (.live cs) => match cs[off]? with
      | some (.lnk j' o') => if j' = j ∧ o' = o then { s' with bx := s'.bx.set i (.live (cs.set off (.sv w))), lz := none } else s
      | _ => s
    | _ => s
  | none => s

def tidyR1A (s : SA) (i off j n k : Nat) : SA :=
  match sinkA s (.mrow j n k) with
  | some (w, s') => match s'.bx[i]? with
    | some (.live cs) => match cs[off]? with
      | some (.lrw j' n' k') => if j' = j ∧ n' = n ∧ k' = k then { s' with bx := s'.bx.set i (.live (cs.set off (.sv w))), lz := none } else s
      | _ => s
    | _ => s
  | none => s

def tidyCsA (i : Nat) : Nat → List Cell → SA → SA
  | _, [], s => s
  | off, .lnk j o :: cs, s => tidyCsA i (off + 1) cs (tidy1A s i off j o)
  | off, .lrw j n k :: cs, s => tidyCsA i (off + 1) cs (tidyR1A s i off j n k)
  | off, .sv _ :: cs, s => tidyCsA i (off + 1) cs s
  | off, .own _ _ :: cs, s => tidyCsA i (off + 1) cs s

def tidyBsA : Nat → List Box → SA → SA
  | _, [], s => s
  | i, .live cs :: bs, s => tidyBsA (i + 1) bs (tidyCsA i 0 cs s)
  | i, .frz _ :: bs, s => tidyBsA (i + 1) bs s
  | i, .it _ _ :: bs, s => tidyBsA (i + 1) bs s

def tidyAtA (q : Bool) (s : SA) (n : Option Nat) (p : AV) : SA :=
  if s.lk && !q then match n, p with
    | some _, .ptr i _ => match s.bx[i]? with
      | some (.live cs) => tidyCsA i 0 cs s
      | _ => s
    | _, _ => s
  else s

def doStoreA (s : SA) (n : Option Nat) (p : AV) (v : AV) (x : Opd) : Option SA :=
  match p with
  | .ptr i off => match s.bx[i]? with
    | some (.live cs) => match n with
      | none => if off < cs.length then match v with
        | .own e xs => some { (x.disownA s) with bx := s.bx.set i (.live (cs.set off (.own e xs))), lz := none }
        | .sv (.agg _) | .sv (.tup _) | .sv .undef | .sv .off => none
        | .sv w => some { s with bx := s.bx.set i (.live (cs.set off (.sv w))), lz := none }
        | .ptr j o => if s.lk then some { s with bx := s.bx.set i (.live (cs.set off (.lnk j o))), lz := none } else match sinkA s (.ptr j o) with
          | some (w, s') => match s'.bx[i]? with
            | some (.live cs') => if off < cs'.length then some { s' with bx := s'.bx.set i (.live (cs'.set off (.sv w))), lz := none } else none
            | _ => none
          | none => none
        | .mrow j n k => if s.lk then some { s with bx := s.bx.set i (.live (cs.set off (.lrw j n k))), lz := none } else none
        | .grw j n k _ => if s.lk then some { s with bx := s.bx.set i (.live (cs.set off (.lrw j n k))), lz := none } else none
        | _ => none
        else none
      | some k => match v with
        | .sv (.agg vs) => if vs.length = k ∧ off + k ≤ cs.length then some { s with bx := s.bx.set i (.live (setCells cs off vs)), lz := none } else none
        | _ => none
    | _ => none
  | _ => none

def appBaseA (E : Env) (s : SA) (d : Option Nat) (a : Opd) : Option (List SV × Option Nat × SA) :=
  match d, s.lz with
  | some t, some (t', l) => if t = t' then match l with
      | .tmp u => match s.rd u with
        | .own e ys => some (ys, some e, { (s.disown u) with lz := none })
        | .sv .nilS => some ([], none, { s with lz := none })
        | .sv .nil0 => some ([], none, { s with lz := none })
        | _ => none
      | .cell i off => match s.bx[i]? with
        | some (.live cs) => match cs[off]? with
          | some (.own e ys) => some (ys, some e, { s with bx := s.bx.set i (.live (cs.set off (.sv (.sl ys)))), lz := none })
          | some (.sv .nilS) => some ([], none, { s with lz := none })
          | some (.sv .nil0) => some ([], none, { s with lz := none })
          | _ => none
        | _ => none
      | .ret => none
    else none
  | some t, none => match s.rd t with
    | .own e ys => some (ys, some e, s.disown t)
    | .sv .nilS => some ([], none, s)
    | .sv .nil0 => some ([], none, s)
    | _ => none
  | none, _ => match a.evA E s with
    | .sv .nilS => some ([], none, s)
    | .sv .nil0 => some ([], none, s)
    | _ => none

def doAppA (E : Env) (s : SA) (e k bytes : Nat) (d : Option Nat) (a b : Opd) : Option (AV × SA) :=
  match (b.evA E s).elems with
  | some new => match appBaseA E s d a with
    | some (ys, e', s') =>
      if (ys.length + new.length) * bytes ≤ 140737488355328 ∧ ys.length + new.length ≤ 140737488355328 ∧ (e' = none ∨ e' = some e) ∧ 0 < k ∧ uni k new = true then
        match e', new with
        | none, [] => some (.sv .nil0, s')
        | _, _ => some (.own e (ys ++ new), s')
      else none
    | none => none
  | none => none

def doAppMA (E : Env) (s : SA) (e k bytes : Nat) (a b : Opd) : Option (AV × SA) :=
  match (b.evA E s).elems with
  | some new => if 0 < new.length ∧ 0 < k ∧ uni k new = true then match a.evA E s with
    | .sv .nilS => if new.length * bytes ≤ 140737488355328 ∧ new.length ≤ 140737488355328 then
        some (.grw s.bx.length new.length k e, { s with bx := s.bx ++ [.live ((new.flatMap SV.cells).map .sv)], lz := none }) else none
    | .sv .nil0 => if new.length * bytes ≤ 140737488355328 ∧ new.length ≤ 140737488355328 then
        some (.grw s.bx.length new.length k e, { s with bx := s.bx ++ [.live ((new.flatMap SV.cells).map .sv)], lz := none }) else none
    | .grw i n k' e' => if k' = k ∧ e' = e ∧ (n + new.length) * bytes ≤ 140737488355328 ∧ n + new.length ≤ 140737488355328 then match s.bx[i]? with
      | some (.live cs) => if cs.length = n * k then
          some (.grw s.bx.length (n + new.length) k e, { s with bx := s.bx.set i (.frz []) ++ [.live ((cs.map Cell.plain ++ new.flatMap SV.cells).map .sv)], lz := none }) else none
      | _ => none
      else none
    | _ => none
    else none
  | none => none

def SA.forget (s : SA) (t : Nat) : SA := { s with tm := delA t s.tm }

def SA.forgetO (s : SA) : Option Nat → SA
  | some t => s.forget t
  | none => s

def doAppQA (E : Env) (s : SA) (e k bytes : Nat) (d : Option Nat) (a b : Opd) : Option (AV × SA) :=
  match a with
  | .t t => if d = some t ∧ s.lz = none ∧ (s.rd t).isOwn = true then match doAppA E s e k bytes d a b with
      | some (v, _) => some (v, s.forget t)
      | none => none
    else none
  | _ => none

def stepVA (E : Env) (cf : CallF) (q : Bool) (dst : Option Nat) (s : SA) : AOp → Option (AV × SA)
  | .mov x => some ((x.evA E s).copy, s)
  | .movL t => match dst with
    | some _ => some ((s.rd t).copy, s)
    | none => none
  | .asg x => match x.evA E s with
    | .own e xs => if q then none else some (.own e xs, x.disownA s)
    | v => some (v, s)
  | .pick c a b => match (c.evA E s).bool? with
    | some t => some ((if t then (a.evA E s).copy else (b.evA E s).copy), s)
    | none => none
  | .load n p => match linkAtA s n (p.evA E s) with
    | some v => some (v, s)
    | none => match cellsAtA (tidyAtA q s n (p.evA E s)) (p.evA E s) with
      | some cs => match takeN n cs with
        | some v => some (.sv v, tidyAtA q s n (p.evA E s))
        | none => none
      | none => none
  | .loadL p => match cellsAtA s (p.evA E s) with
    | some cs => match takeN none cs with
      | some v => some (.sv v, s)
      | none => none
    | none => none
  | .store n p v => match doStoreA s n (p.evA E s) (v.evA E s) v with
    | some s' => some (.sv .undef, s')
    | none => none
  | .storeX n p v ls => match (v.evA E s).sv?, boxOf (p.evA E s) with
    | some x, some j => if ls.all (fun y => offBox j (y.evA E s)) then match doStoreA s n (p.evA E s) (.sv x) v with
      | some s' => some (.sv .undef, s')
      | none => none
      else none
    | _, _ => none
  | .new zero => if q then none else some (.ptr s.bx.length 0, { s with bx := s.bx ++ [.live (zero.map .sv)] })
  | .box n x => if q then none else match x.evA E s with
    | .sv .undef | .sv .off | .sv (.tup _) => none
    | .sv v => if v.cells.length = n then some (.ptr s.bx.length 0, { s with bx := s.bx ++ [.live (v.cells.map .sv)] }) else none
    | .own _ xs => if n = 1 then some (.ptr s.bx.length 0, { s with bx := s.bx ++ [.live [.sv (.sl xs)]] }) else none
    | _ => none
  | .build zero parts => match sinksA E q s (parts.map (·.2.2)) with
    | some (vs, s') => match fillS zero ((parts.zip (keepNil (parts.map fun p => p.2.2.evA E s) vs)).map fun p => (p.1.1, p.1.2.1, p.2)) with
      | some cs => some (.sv (.agg cs), s')
      | none => none
    | none => none
  | .mkSl e k parts => match sinksA E q s parts with
    | some (vs, s') => if uni k (keepMu q s.mu e (parts.map (Opd.evA E s)) vs) then some (mkSlA q e (keepMu q s.mu e (parts.map (Opd.evA E s)) vs), s') else none
    | none => none
  | .bin op x y => match (x.evA E s).sv?, (y.evA E s).sv? with
    | some a, some b => match binSV op a b with
      | some r => some (.sv r, s)
      | none => none
    | _, _ => none
  | .eqB ng x y => match (x.evA E s).bool?, (y.evA E s).bool? with
    | some a, some b => some (.sv (.bool ((a == b) != ng)), s)
    | _, _ => none
  | .isNil k ng x => match (x.evA E s).nil? k with
    | some b => some (.sv (.bool (b != ng)), s)
    | none => none
  | .not x => match (x.evA E s).bool? with
    | some a => some (.sv (.bool !a), s)
    | none => none
  | .neg x => match (x.evA E s).int? with
    | some (k, n) => some (.sv (.int k (k.wrap (0 - n))), s)
    | none => none
  | .cpl x => match (x.evA E s).int? with
    | some (k, n) => some (.sv (.int k (k.wrap (BitVec.ofInt k.bits (if k.signed then -1 else k.max) ^^^ BitVec.ofInt k.bits n).toNat)), s)
    | none => none
  | .bad => none
  | .i2i k x => match (x.evA E s).int? with
    | some (_, n) => some (.sv (.int k (k.wrap n)), s)
    | none => none
  | .i2f k x => match (x.evA E s).int? with
    | some (_, n) => some (.sv (.flt k (k.nearest n)), s)
    | none => none
  | .s2s x => match (x.evA E s).str? with
    | some l => some (.sv (.str l), s)
    | none => none
  | .s2b x => match (x.evA E s).str? with
    | some l => some (.sv (.sl (bytesSV l)), s)
    | none => none
  | .s2r x => match (x.evA E s).str? with
    | some l => if q || l.isEmpty then some (.sv (.sl (bytesSV l)), s) else some (.mrow s.bx.length l.length 1, { s with bx := s.bx ++ [.live ((bytesSV l).map .sv)] })
    | none => none
  | .b2s x => match sinkQA q s (x.evA E s) with
    | some (.sl xs, s') => match svBytes xs with
      | some l => some (.sv (.str l), s')
      | none => none
    | _ => none
  | .mkI t x => match sinkQA q s (x.evA E s) with
    | some (v, s') => some (.sv (.iface t v), s')
    | none => none
  | .mkF f first cap => match mapOpt (fun x => argSV (Opd.evA E s x).arg) first, mapOpt (fun x => argSV (Opd.evA E s x).arg) cap with
    | some a, some b => some (.sv (.fn f a b), s)
    | _, _ => some (.clo f (first.map fun x => (x.evA E s).arg) (cap.map fun x => (x.evA E s).arg), s)
  | .mkR e bytes zero n => if q then none else match (n.evA E s).int? with
    | some (_, k) => if 0 ≤ k ∧ k * bytes ≤ 70368744177664 ∧ k ≤ 70368744177664 ∧ zero.length = e then
        some (.mrow s.bx.length k.toNat e, { s with bx := s.bx ++ [.live ((List.replicate k.toNat zero).flatten.map .sv)] }) else none
    | none => none
  | .mkC e _ bytes n => match (n.evA E s).int? with
    | some (_, k) => if 0 ≤ k ∧ k * bytes ≤ 70368744177664 ∧ k ≤ 70368744177664 then some (.own e [], s) else none
    | none => none
  | .subS x lo hi => match (x.evA E s).str? with
    | some l => match optIntA E s hi l.length with
      | some h => match upTo l.length h with
        | some h => match optIntA E s lo 0 with
          | some a => match upTo h a with
            | some a => some (.sv (.str ((l.take h).drop a)), s)
            | none => none
          | none => none
        | none => none
      | none => none
    | none => none
  | .subL e x lo hi => match (x.evA E s).elems with
    | some l => match optIntA E s hi l.length with
      | some h => match upTo l.length h with
        | some h => match optIntA E s lo 0 with
          | some a => match upTo h a with
            | some a => if 0 < e ∧ uni e l = true then some (.sv (.sl ((l.take h).drop a)), s) else none
            | none => none
          | none => none
        | none => none
      | none => none
    | none => none
  | .fAddr off p => match addrPlus (p.evA E s) off with
    | some a => some (a, s)
    | none => none
  | .fld off n x => match x.evA E s with
    | .sv (.agg cs) => match takeN n (cs.drop off) with
      | some v => some (.sv v, s)
      | none => none
    | _ => none
  | .iAddrS e x i => match (i.evA E s).int? with
    | some (_, k) => match x.evA E s with
      | .mrow b n e' => if e = e' then match below n k with
          | some j => some (.ptr b (j * e), s)
          | none => none
        else none
      | .grw b n e' _ => if e = e' then match below n k with
          | some j => some (.ptr b (j * e), s)
          | none => none
        else none
      | v => match v.elems with
        | some xs => match below xs.length k with
          | some j => match xs[j]? with
            | some y => if y.cells.length = e then some (.sv (.ref y.cells), s) else none
            | none => none
          | none => none
        | none => none
    | none => none
  | .iAddrA n e p i => match (i.evA E s).int? with
    | some (_, k) => match below n k with
      | some j => match addrPlus (p.evA E s) (j * e) with
        | some a => some (a, s)
        | none => none
      | none => none
    | none => none
  | .idxS x i => match (x.evA E s).str?, (i.evA E s).int? with
    | some l, some (_, k) => match below l.length k with
      | some j => match l[j]? with
        | some b => some (.sv (.int .u8 b.toNat), s)
        | none => none
      | none => none
    | _, _ => none
  | .idxA len e n x i => match x.evA E s, (i.evA E s).int? with
    | .sv (.agg cs), some (_, k) => match below len k with
      | some j => match takeN n (cs.drop (j * e)) with
        | some v => some (.sv v, s)
        | none => none
      | none => none
    | _, _ => none
  | .ext x i => match x.evA E s with
    | .sv (.tup vs) => match vs[i]? with
      | some v => some (.sv v, s)
      | none => none
    | _ => none
  | .call f args => match target (f.evA E s) with
    | some (k, first, cap) => match doCall E cf q k (first ++ (args.map fun x => (x.evA E s).arg) ++ cap) s.bx with
      | some (r, bx) => some (r, if q then s else { s with bx := bx, lz := if (E.pure k).isSome then s.lz else none })
      | none => none
    | none => none
  | .app e k bytes d a b => if q then doAppQA E s e k bytes d a b else if s.mu.contains e then doAppMA E s e k bytes a b else doAppA E s e k bytes d a b
  | .mm mx x y => match (x.evA E s).int?, (y.evA E s).int? with
    | some (k, m), some (_, n) => some (.sv (.int k (if (if mx then n > m else n < m) then n else m)), s)
    | _, _ => none
  | .lenS x => match (x.evA E s).str? with
    | some l => some (.sv (.int .i64 l.length), s)
    | none => none
  | .lenL x => match x.evA E s with
    | .mrow _ n _ => some (.sv (.int .i64 n), s)
    | .grw _ n _ _ => some (.sv (.int .i64 n), s)
    | v => match v.elems with
      | some xs => some (.sv (.int .i64 xs.length), s)
      | none => none
  | .nilChk x => match x.evA E s with
    | .ptr i off => some (.ptr i off, s)
    | .sv (.ref cs) => some (.sv (.ref cs), s)
    | _ => none
  | .dfr f => if q then none else match target (f.evA E s) with
    | some (k, _, _) => some (.sv .undef, { s with df := k :: s.df })
    | none => none
  | .rngS x => if q then none else match (x.evA E s).str? with
    | some l => some (.ptr s.bx.length 0, { s with bx := s.bx ++ [.it l 0] })
    | none => none
  | .nextS x => if q then none else match x.evA E s with
    | .ptr i 0 => match s.bx[i]? with
      | some (.it l pos) => match l[pos]? with
        | none => some (.sv (.tup [.bool false]), s)
        | some c => if c.toNat < 128 then some (.sv (.tup [.bool true, .int .i64 pos, .int .i32 c.toNat]), { s with bx := s.bx.set i (.it l (pos + 1)), lz := none }) else none
      | _ => none
    | _ => none

def lazyAfterA (E : Env) (s : SA) (dst : Option Nat) : AOp → Option (Option (Nat × Loc))
  | .movL t => match dst with
    | some d => if d = t ∨ s.nt ≤ d then some none else some (some (d, .tmp t))
    | none => some none
  | .loadL p => match dst, p.evA E s with
    | some d, .ptr i off => if s.nt ≤ d then some none else some (some (d, .cell i off))
    | _, _ => some none
  | _ => none

def stepOpA (E : Env) (cf : CallF) (q : Bool) (o : SOp) (s : SA) : Option SA :=
  match stepVA E cf q o.dst s o.op with
  | some (v, s') => match lazyAfterA E s o.dst o.op with
    | some l => some { (s'.put o.dst v) with lz := l }
    | none => some (s'.put o.dst v)
  | none => none

def wantsA (ops : List SOp) (s : SA) (o : SOp) : Option Bool :=
  match o.guard with
  | none => some true
  | some (j, b) => match ops[j]? with
    | some g => match g.dst with
      | some d => match s.rd d with
        | .sv (.bool c) => some (c == b)
        | .sv .off => some false
        | _ => none
      | none => none
    | none => none

def SA.settle (s : SA) : SA :=
  match s.lz with
  | some (d, .tmp u) => match s.rd u with
    | .own e xs => { ((s.disown u).put (some d) (.own e xs)) with lz := none }
    | _ => s
  | _ => s

def SA.sinkArg (s : SA) : Opd → SA
  | .t t => match s.rd t with
    | .grw i n k e => match sinkA s (.grw i n k e) with
      | some (x, s') => { s' with tm := insA t (.sv x) s'.tm }
      | none => s
    | .mrow i n e => match sinkA s (.mrow i n e) with
      | some (x, s') => { s' with tm := insA t (.sv x) s'.tm }
      | none => s
    | _ => s
  | _ => s

def SA.sinkArgs (s : SA) (args : List Opd) : SA := args.foldl SA.sinkArg s

def preA (q : Bool) (op : AOp) (s : SA) : SA :=
  match q, op with
  | false, .movL _ => s.settle
  | false, .loadL _ => s.settle
  | false, .call _ args => if s.mu.isEmpty then s else s.sinkArgs args
  | _, _ => s

def opRunA (E : Env) (cf : CallF) (q : Bool) (all : List SOp) (o : SOp) (s : SA) : Option SA :=
  match wantsA all s o with
  | some true => stepOpA E cf q o (preA q o.op s)
  | some false => some (s.put o.dst (.sv .off))
  | none => none

def runOpsA (E : Env) (cf : CallF) (q : Bool) (all : List SOp) : List SOp → SA → Option SA
  | [], s => some s
  | o :: rest, s => match opRunA E cf q all o s with
    | some s' => runOpsA E cf q all rest s'
    | none => none

def tidyHeadA : List SOp → SA → SA
  | [], s => s
  | o :: os, s => match o.op with
    | .load (some k) (.t t) => tidyHeadA os (tidyAtA false s (some k) (s.rd t))
    | _ => tidyHeadA os s

def evCA (E : Env) (cf : CallF) (n : Nat) : ACode → SA → Option (AExit × SA)
  | .skip, s => some (.normal, s)
  | .region h ops, s => match runOpsA E cf true ops (ops.take h) { (if s.lk then tidyHeadA (ops.take h) s else s) with lz := none } with
    | some s' => match runOpsA E cf false ops (ops.drop h) s' with
      | some s'' => some (.normal, s'')
      | none => none
    | none => none
  | .seq a b, s => match evCA E cf n a s with
    | some (.normal, s') => evCA E cf n b s'
    | r => r
  | .cond c t e, s => match (c.evA E s).bool? with
    | some b => if b then evCA E cf n t s else evCA E cf n e s
    | none => none
  | .block id b, s => match evCA E cf n b s with
    | some (.exit j, s') => if j = id then some (.normal, s') else some (.exit j, s')
    | r => r
  | .loop b, s => roundsA (evCA E cf n b) n s
  | .exit id, s => some (.exit id, s)
  | .scope b, s => evCA E cf n b s
  | .ret, s => some (.ret, s)
  | .kill ts, s => some (.normal, s.kill ts)
  | .bad, _ => none

def resOfA (s : SA) : ARes → Option AV
  | .tmp t => some (s.rd t)
  | .cell a n => match cellsAtA s (s.rd a) with
    | some cs => match takeN n cs with
      | some v => some (.sv v)
      | none => none
    | none => none

def sinkLA : SA → List AV → Option (List SV × SA)
  | s, [] => some ([], s)
  | s, v :: vs => match sinkA s v with
    | some (x, s') => match sinkLA s' vs with
      | some (xs, s'') => some (x :: xs, s'')
      | none => none
    | none => none

def SA.tidyIf (b : Bool) (s : SA) : SA := if b then tidyBsA 0 s.bx s else s

def endOfA (E : Env) (fn : AFn) (s : SA) : Option (AV × SA) :=
  if s.df.all E.quiet then
    match mapOpt (resOfA (s.tidyIf fn.lk)) fn.results with
    | some [v] => some (v, s.tidyIf fn.lk)
    | some vs => match sinkLA (s.tidyIf fn.lk) vs with
      | some (xs, s') => some (.sv (.tup xs), s')
      | none => none
    | none => none
  else none


def argsA : Nat → List AV → List (Nat × AV)
  | _, [] => []
  | i, v :: vs => insA i v (argsA (i + 1) vs)

def enterA (fn : AFn) (args : List AV) (bx : List Box) : SA := { nt := max args.length fn.ntmps, tm := argsA 0 args, lz := none, bx := bx, df := [], lk := fn.lk, mu := fn.mu }

def evPA (E : Env) (n : Nat) (f : Nat) (args : List SV) : Option AV :=
  match E.code f with
  | some fn => match evCA E (evF E n) n fn.body (enterA fn (args.map .sv) []) with
    | some (.normal, s) | some (.ret, s) => match endOfA E fn s with
      | some (v, s') => match v with
        | .own e xs => some (.own e xs)
        | .sv x => some (.sv x)
        | v => match sinkA s' v with
          | some (x, _) => some (.sv x)
          | none => none
      | none => none
    | _ => none
  | none => none

/-! ### The same answers -/

def emb (s : SA) : St := { tm := (List.range s.nt).map s.rd, lz := s.lz, bx := s.bx, df := s.df, lk := s.lk, mu := s.mu }

def emb2 {α : Type} (p : α × SA) : α × St := (p.1, emb p.2)

theorem lookA_ins (d : Nat) (v : AV) (t : Nat) : ∀ l : List (Nat × AV), lookA t (insA d v l) = if t = d then v else lookA t l
  | [] => by simp only [insA, lookA]; by_cases h : d = t <;> simp [h, eq_comm]
  | (k, x) :: l => by
    simp only [insA]
    by_cases h1 : k < d
    · rw [if_pos h1]
      simp only [lookA]
      by_cases h : d = t
      · subst h; simp
      · rw [if_neg h, if_neg (show ¬ t = d from fun e => h e.symm)]
    · rw [if_neg h1]
      by_cases h2 : k = d
      · subst h2
        rw [if_pos rfl]
        simp only [lookA]
        by_cases h : k = t
        · subst h; simp
        · rw [if_neg h, if_neg (show ¬ t = k from fun e => h e.symm), if_neg h]
      · rw [if_neg h2]
        simp only [lookA]
        by_cases h : k = t
        · subst h; rw [if_pos rfl, if_neg h2, if_pos rfl]
        · rw [if_neg h, lookA_ins d v t l, if_neg h]

theorem lookA_del (d t : Nat) : ∀ l : List (Nat × AV), lookA t (delA d l) = if t = d then .sv .undef else lookA t l
  | [] => by simp [delA, lookA]
  | (k, x) :: l => by
    simp only [delA]
    by_cases h2 : k = d
    · subst h2
      rw [if_pos rfl, lookA_del k t l]
      simp only [lookA]
      by_cases h : t = k
      · subst h; simp
      · rw [if_neg h, if_neg h, if_neg (fun e => h e.symm)]
    · rw [if_neg h2]
      simp only [lookA]
      by_cases h : k = t
      · subst h; rw [if_pos rfl, if_neg h2, if_pos rfl]
      · rw [if_neg h, lookA_del d t l, if_neg h]

@[simp] theorem emb_rd (s : SA) (t : Nat) : (emb s).rd t = s.rd t := by
  unfold St.rd emb
  rw [List.getD_eq_getElem?_getD, List.getElem?_map]
  by_cases h : t < s.nt
  · rw [List.getElem?_range h]; rfl
  · rw [List.getElem?_eq_none (by simpa using h)]
    simp [SA.rd, h]

theorem St.ext' {s s' : St} (h1 : s.tm = s'.tm) (h2 : s.lz = s'.lz) (h3 : s.bx = s'.bx) (h4 : (s.df, s.lk, s.mu) = (s'.df, s'.lk, s'.mu)) : s = s' := by
  cases s; cases s'; simp_all

theorem tm_ins (s : SA) (d : Nat) (v : AV) : ((List.range s.nt).map s.rd).set d v = (List.range s.nt).map ({ s with tm := insA d v s.tm } : SA).rd := by
  apply List.ext_getElem (by simp)
  intro i h1 h2
  have hi : i < s.nt := by simpa using h1
  rw [List.getElem_set]
  simp only [List.getElem_map, List.getElem_range, SA.rd, if_pos hi, lookA_ins]
  by_cases h : d = i
  · subst h; simp
  · rw [if_neg h, if_neg (fun e => h e.symm)]

theorem tm_del (s : SA) (d : Nat) : ((List.range s.nt).map s.rd).set d (.sv .undef) = (List.range s.nt).map ({ s with tm := delA d s.tm } : SA).rd := by
  apply List.ext_getElem (by simp)
  intro i h1 h2
  have hi : i < s.nt := by simpa using h1
  rw [List.getElem_set]
  simp only [List.getElem_map, List.getElem_range, SA.rd, if_pos hi, lookA_del]
  by_cases h : d = i
  · subst h; simp
  · rw [if_neg h, if_neg (fun e => h e.symm)]

theorem emb_set (s : SA) (d : Nat) (v : AV) : (emb s).set d v = emb (s.set d v) := St.ext' (tm_ins s d v) rfl rfl rfl

theorem emb_put (s : SA) (d : Option Nat) (v : AV) : (emb s).put d v = emb (s.put d v) := by
  cases d with
  | none => rfl
  | some d => exact emb_set s d v

theorem emb_disown (s : SA) (t : Nat) : (emb s).disown t = emb (s.disown t) := by
  unfold St.disown SA.disown
  rw [emb_rd]
  cases s.rd t with
  | own e xs => exact St.ext' (tm_ins s t _) rfl rfl rfl
  | _ => rfl

theorem emb_disownO (s : SA) (x : Opd) : x.disown (emb s) = emb (x.disownA s) := by
  cases x with
  | t n => exact emb_disown s n
  | c v => rfl
  | g n => rfl

theorem emb_forget (s : SA) (t : Nat) : (emb s).forget t = emb (s.forget t) := St.ext' (tm_del s t) rfl rfl rfl

theorem emb_kill (s : SA) (ts : List Nat) : (emb s).kill ts = emb (s.kill ts) := by
  have key : ∀ (ts : List Nat) (l : List (Nat × AV)), ts.foldl (fun l t => l.set t (.sv .undef)) ((List.range s.nt).map ({ s with tm := l } : SA).rd) = (List.range s.nt).map ({ s with tm := ts.foldl (fun l t => delA t l) l } : SA).rd := by
    intro ts
    induction ts with
    | nil => intro l; rfl
    | cons t ts ih =>
      intro l
      simp only [List.foldl_cons]
      have := tm_del { s with tm := l } t
      simp only at this
      rw [this, ih]
  exact St.ext' (key ts s.tm) rfl rfl rfl

@[simp] theorem emb_ev (E : Env) (s : SA) (x : Opd) : x.ev E (emb s) = x.evA E s := by
  cases x with
  | t n => exact emb_rd s n
  | c v => rfl
  | g n => rfl

variable {E : Env} {cf : CallF} {q : Bool} {dst : Option Nat}

theorem emb_sink (s : SA) (v : AV) : sink (emb s) v = (sinkA s v).map emb2 := by
  cases v with
  | sv v => cases v <;> rfl
  | own e xs => rfl
  | ptr i off =>
    show (match s.bx[i]? with | some b => _ | none => none) = _
    simp only [sinkA]
    cases s.bx[i]? <;> rfl
  | mrow i n e =>
    show (if e = 1 then (match s.bx[i]? with | some b => _ | none => none) else none) = _
    simp only [sinkA]
    split
    · cases s.bx[i]? with
      | none => rfl
      | some b => simp only; split <;> rfl
    · rfl
  | grw i n k e =>
    show (match s.bx[i]? with | some b => _ | none => none) = _
    simp only [sinkA]
    cases s.bx[i]? with
    | none => rfl
    | some b => simp only; split <;> rfl
  | clo f a b => rfl

theorem emb_sinkQ (s : SA) (v : AV) : sinkQ q (emb s) v = (sinkQA q s v).map emb2 := by
  cases q with
  | false =>
    have e1 : sinkQ false (emb s) v = sink (emb s) v := by cases v <;> rfl
    have e2 : sinkQA false s v = sinkA s v := by cases v <;> rfl
    rw [e1, e2, emb_sink]
  | true =>
    cases v with
    | sv v => cases v <;> rfl
    | own e xs => rfl
    | ptr i off => rfl
    | mrow i n e => rfl
    | grw i n k e => rfl
    | clo f a b => rfl

theorem emb_sinks : ∀ (xs : List Opd) (s : SA), sinks E q (emb s) xs = (sinksA E q s xs).map emb2
  | [], s => rfl
  | x :: xs, s => by
    simp only [sinks, sinksA, emb_ev, emb_sinkQ]
    cases sinkQA q s (x.evA E s) with
    | none => rfl
    | some p =>
      simp only [Option.map_some, emb2, emb_sinks xs p.2]
      cases sinksA E q p.2 xs <;> rfl

theorem emb_optInt (s : SA) (x : Option Opd) (d : Int) : optInt E (emb s) x d = optIntA E s x d := by
  cases x with
  | none => rfl
  | some o => show (Option.map _ (AV.int? (o.ev E (emb s)))) = _; rw [emb_ev]; rfl

theorem emb_cellsAt (s : SA) (v : AV) : cellsAt (emb s) v = cellsAtA s v := by
  cases v <;> rfl

theorem emb_tidy1 (s : SA) (i off j o : Nat) : tidy1 (emb s) i off j o = emb (tidy1A s i off j o) := by
  unfold tidy1 tidy1A
  rw [emb_sink]
  cases sinkA s (.ptr j o) with
  | none => rfl
  | some p =>
    obtain ⟨w, s'⟩ := p
    simp only [Option.map_some, emb2]
    show (match s'.bx[i]? with | some (.live cs) => _ | _ => _) = _
    cases s'.bx[i]? with
    | none => rfl
    | some b =>
      cases b with
      | frz cs => rfl
      | it _ _ => rfl
      | live cs =>
        simp only
        cases cs[off]? with
        | none => rfl
        | some c =>
          cases c with
          | sv v => rfl
          | own e xs => rfl
          | lnk j' o' => simp only; split <;> rfl
          | lrw _ _ _ => rfl

theorem emb_tidyR1 (s : SA) (i off j n k : Nat) : tidyR1 (emb s) i off j n k = emb (tidyR1A s i off j n k) := by
  unfold tidyR1 tidyR1A
  rw [emb_sink]
  cases sinkA s (.mrow j n k) with
  | none => rfl
  | some p =>
    obtain ⟨w, s'⟩ := p
    simp only [Option.map_some, emb2]
    show (match s'.bx[i]? with | some (.live cs) => _ | _ => _) = _
    cases s'.bx[i]? with
    | none => rfl
    | some b =>
      cases b with
      | frz cs => rfl
      | it _ _ => rfl
      | live cs =>
        simp only
        cases cs[off]? with
        | none => rfl
        | some c =>
          cases c with
          | sv v => rfl
          | own e xs => rfl
          | lnk _ _ => rfl
          | lrw j' n' k' => simp only; split <;> rfl

theorem emb_tidyCs (i : Nat) : ∀ (cs : List Cell) (off : Nat) (s : SA), tidyCs i off cs (emb s) = emb (tidyCsA i off cs s)
  | [], _, _ => rfl
  | .sv _ :: cs, off, s => emb_tidyCs i cs (off + 1) s
  | .own _ _ :: cs, off, s => emb_tidyCs i cs (off + 1) s
  | .lrw j n k :: cs, off, s => by
    simp only [tidyCs, tidyCsA, emb_tidyR1]
    exact emb_tidyCs i cs (off + 1) _
  | .lnk j o :: cs, off, s => by
    simp only [tidyCs, tidyCsA, emb_tidy1]
    exact emb_tidyCs i cs (off + 1) _

theorem emb_linkAt (s : SA) (n : Option Nat) (v : AV) : linkAt (emb s) n v = linkAtA s n v := by
  cases n <;> cases v <;> rfl

theorem emb_tidyAt (s : SA) (n : Option Nat) (v : AV) : tidyAt q (emb s) n v = emb (tidyAtA q s n v) := by
  unfold tidyAt tidyAtA
  show (if (s.lk && !q) = true then _ else _) = _
  split
  · cases n with
    | none => rfl
    | some k =>
      cases v with
      | ptr i off =>
        simp only
        show (match s.bx[i]? with | some (.live cs) => _ | _ => _) = _
        cases s.bx[i]? with
        | none => rfl
        | some b =>
          cases b with
          | live cs => exact emb_tidyCs i cs 0 s
          | frz cs => rfl
          | it _ _ => rfl
      | _ => rfl
  · rfl

theorem emb_doStore (s : SA) (n : Option Nat) (p v : AV) (x : Opd) : doStore (emb s) n p v x = (doStoreA s n p v x).map emb := by
  cases p with
  | ptr i off =>
    simp only [doStore, doStoreA, emb_sink]
    show (match s.bx[i]? with | some (.live cs) => _ | _ => none) = _
    cases s.bx[i]? with
    | none => rfl
    | some b =>
      cases b with
      | frz cs => rfl
      | it _ _ => rfl
      | live cs =>
        simp only
        cases n with
        | none =>
          simp only
          split
          · cases v with
            | own e xs => simp only [emb_disownO]; rfl
            | sv v => cases v <;> rfl
            | ptr j o =>
              show (if s.lk = true then _ else _) = _
              simp only
              by_cases hlk : s.lk = true
              · rw [if_pos hlk, if_pos hlk]; rfl
              rw [if_neg hlk, if_neg hlk]
              cases sinkA s (.ptr j o) with
              | none => rfl
              | some p =>
                simp only [Option.map_some, emb2]
                show (match p.2.bx[i]? with | some (.live cs') => _ | _ => none) = _
                cases p.2.bx[i]? with
                | none => rfl
                | some b =>
                  cases b with
                  | frz cs => rfl
                  | it _ _ => rfl
                  | live cs => simp only; split <;> rfl
            | mrow j n k => show (if s.lk = true then _ else _) = _; simp only; split <;> rfl
            | grw j n k e => show (if s.lk = true then _ else _) = _; simp only; split <;> rfl
            | clo _ _ _ => rfl
          · rfl
        | some k =>
          simp only
          cases v with
          | sv v =>
            cases v with
            | agg vs => simp only; split <;> rfl
            | _ => rfl
          | _ => rfl
  | _ => rfl

def emb3 (p : List SV × Option Nat × SA) : List SV × Option Nat × St := (p.1, p.2.1, emb p.2.2)

theorem emb_appBase (s : SA) (d : Option Nat) (a : Opd) : appBase E (emb s) d a = (appBaseA E s d a).map emb3 := by
  cases d with
  | none =>
    simp only [appBase, appBaseA, emb_ev]
    cases a.evA E s with
    | sv v => cases v <;> rfl
    | _ => rfl
  | some t =>
    simp only [appBase, appBaseA, emb_rd, emb_disown]
    show (match some t, s.lz with | some t, some (t', l) => _ | some t, none => _ | none, _ => _) = _
    cases s.lz with
    | none =>
      simp only
      cases s.rd t with
      | sv v => cases v <;> rfl
      | _ => rfl
    | some p =>
      obtain ⟨t', l⟩ := p
      simp only
      split
      · cases l with
        | tmp u =>
          simp only
          cases s.rd u with
          | sv v => cases v <;> rfl
          | _ => rfl
        | cell i off =>
          simp only
          show (match s.bx[i]? with | some (.live cs) => _ | _ => none) = _
          cases s.bx[i]? with
          | none => rfl
          | some b =>
            cases b with
            | frz cs => rfl
            | it _ _ => rfl
            | live cs =>
              simp only
              cases cs[off]? with
              | none => rfl
              | some c =>
                cases c with
                | own e ys => rfl
                | sv v => cases v <;> rfl
                | lnk _ _ => rfl
                | lrw _ _ _ => rfl
        | ret => rfl
      · rfl

theorem emb_doApp (s : SA) (e k bytes : Nat) (d : Option Nat) (a b : Opd) : doApp E (emb s) e k bytes d a b = (doAppA E s e k bytes d a b).map emb2 := by
  simp only [doApp, doAppA, emb_ev, emb_appBase]
  cases (b.evA E s).elems with
  | none => rfl
  | some new =>
    simp only
    cases appBaseA E s d a with
    | none => rfl
    | some p =>
      obtain ⟨ys, e', s'⟩ := p
      simp only [Option.map_some, emb3]
      split
      · cases e' <;> cases new <;> rfl
      · rfl

theorem emb_doAppM (s : SA) (e k bytes : Nat) (a b : Opd) : doAppM E (emb s) e k bytes a b = (doAppMA E s e k bytes a b).map emb2 := by
  simp only [doAppM, doAppMA, emb_ev]
  cases (b.evA E s).elems with
  | none => rfl
  | some new =>
    simp only
    split
    · cases a.evA E s with
      | sv v => cases v <;> first | rfl | (simp only; split <;> rfl)
      | grw i n k' e' =>
        simp only
        split
        · show (match s.bx[i]? with | some (.live cs) => _ | _ => none) = _
          cases s.bx[i]? with
          | none => rfl
          | some b =>
            cases b with
            | live cs => simp only; split <;> rfl
            | frz cs => rfl
            | it _ _ => rfl
        · rfl
      | _ => rfl
    · rfl

theorem emb_doAppQ (s : SA) (e k bytes : Nat) (d : Option Nat) (a b : Opd) : doAppQ E (emb s) e k bytes d a b = (doAppQA E s e k bytes d a b).map emb2 := by
  cases a with
  | t t =>
    simp only [doAppQ, doAppQA, emb_rd, emb_doApp, emb_forget]
    show (if d = some t ∧ s.lz = none ∧ (s.rd t).isOwn = true then _ else _) = _
    by_cases hc : d = some t ∧ s.lz = none ∧ (s.rd t).isOwn = true
    · rw [if_pos hc, if_pos hc]
      cases doAppA E s e k bytes d (.t t) b <;> rfl
    · rw [if_neg hc, if_neg hc]; rfl
  | _ => rfl

theorem emb_stepV (s : SA) (op : AOp) : stepV E cf q dst (emb s) op = (stepVA E cf q dst s op).map emb2 := by
  cases op
  all_goals simp only [stepV, stepVA, emb_ev, emb_rd, emb_sinkQ, emb_sinks, emb_optInt, emb_linkAt, emb_tidyAt, emb_cellsAt, emb_doStore, emb_doApp, emb_doAppQ, emb_doAppM, emb_disownO]
  case mov x => rfl
  case movL t => cases dst <;> rfl
  case asg x =>
    cases x.evA E s with
    | own e xs => simp only; split <;> rfl
    | _ => rfl
  case pick c a b => cases (c.evA E s).bool? <;> rfl
  case load n p =>
    cases linkAtA s n (p.evA E s) with
    | some v => rfl
    | none =>
      simp only
      cases cellsAtA (tidyAtA q s n (p.evA E s)) (p.evA E s) with
      | none => rfl
      | some cs => simp only; cases takeN n cs <;> rfl
  case loadL p =>
    cases cellsAtA s (p.evA E s) with
    | none => rfl
    | some cs => simp only; cases takeN none cs <;> rfl
  case store n p v => cases doStoreA s n (p.evA E s) (v.evA E s) v <;> rfl
  case storeX n p v ls =>
    cases (v.evA E s).sv? with
    | none => rfl
    | some x =>
      cases boxOf (p.evA E s) with
      | none => rfl
      | some j =>
        simp only
        split
        · cases doStoreA s n (p.evA E s) (.sv x) v <;> rfl
        · rfl
  case new z => split <;> rfl
  case box n x =>
    split
    · rfl
    · cases x.evA E s with
      | sv v => cases v <;> simp only <;> (first | rfl | (split <;> rfl))
      | own e xs => simp only; split <;> rfl
      | _ => rfl
  case build z parts =>
    cases sinksA E q s (parts.map (·.2.2)) with
    | none => rfl
    | some p =>
      simp only [Option.map_some, emb2]
      cases fillS z ((parts.zip (keepNil (parts.map fun p => p.2.2.evA E s) p.1)).map fun p => (p.1.1, p.1.2.1, p.2)) <;> rfl
  case mkSl e k parts =>
    have hmp : parts.map (Opd.ev E (emb s)) = parts.map (Opd.evA E s) := List.map_congr_left fun x _ => emb_ev E s x
    rw [hmp]
    cases sinksA E q s parts with
    | none => rfl
    | some p =>
      simp only [Option.map_some, emb2]
      show (if uni k (keepMu q s.mu e (parts.map (Opd.evA E s)) p.1) = true then _ else _) = _
      split <;> rfl
  case bin op x y =>
    cases (x.evA E s).sv? with
    | none => rfl
    | some a =>
      cases (y.evA E s).sv? with
      | none => rfl
      | some b => simp only; cases binSV op a b <;> rfl
  case eqB ng x y =>
    cases (x.evA E s).bool? with
    | none => rfl
    | some a => cases (y.evA E s).bool? <;> rfl
  case isNil k ng x => cases (x.evA E s).nil? k <;> rfl
  case not x => cases (x.evA E s).bool? <;> rfl
  case neg x => cases (x.evA E s).int? <;> rfl
  case cpl x => cases (x.evA E s).int? <;> rfl
  case bad => rfl
  case i2i k x => cases (x.evA E s).int? <;> rfl
  case i2f k x => cases (x.evA E s).int? <;> rfl
  case s2s x => cases (x.evA E s).str? <;> rfl
  case s2b x => cases (x.evA E s).str? <;> rfl
  case s2r x =>
    cases (x.evA E s).str? with
    | none => rfl
    | some l => simp only; split <;> rfl
  case b2s x =>
    cases sinkQA q s (x.evA E s) with
    | none => rfl
    | some p =>
      obtain ⟨v, s2⟩ := p
      simp only [Option.map_some, emb2]
      cases v with
      | sl xs => simp only; cases svBytes xs <;> rfl
      | _ => rfl
  case mkI t x => cases sinkQA q s (x.evA E s) <;> rfl
  case mkF f a b =>
    cases mapOpt (fun x => argSV (Opd.evA E s x).arg) a with
    | none => rfl
    | some va => cases mapOpt (fun x => argSV (Opd.evA E s x).arg) b <;> rfl
  case mkR e bytes z n =>
    split
    · rfl
    · cases (n.evA E s).int? with
      | none => rfl
      | some p => simp only; split <;> rfl
  case mkC e k bytes n =>
    cases (n.evA E s).int? with
    | none => rfl
    | some p => simp only; split <;> rfl
  case subS x lo hi =>
    cases (x.evA E s).str? with
    | none => rfl
    | some l =>
      simp only
      cases optIntA E s hi l.length with
      | none => rfl
      | some h =>
        simp only
        cases upTo l.length h with
        | none => rfl
        | some h =>
          simp only
          cases optIntA E s lo 0 with
          | none => rfl
          | some a => simp only; cases upTo h a <;> rfl
  case subL e x lo hi =>
    cases (x.evA E s).elems with
    | none => rfl
    | some l =>
      simp only
      cases optIntA E s hi l.length with
      | none => rfl
      | some h =>
        simp only
        cases upTo l.length h with
        | none => rfl
        | some h =>
          simp only
          cases optIntA E s lo 0 with
          | none => rfl
          | some a =>
            simp only
            cases upTo h a with
            | none => rfl
            | some a => simp only; split <;> rfl
  case fAddr off p => cases addrPlus (p.evA E s) off <;> rfl
  case fld off n x =>
    cases x.evA E s with
    | sv v =>
      cases v with
      | agg cs => simp only; cases takeN n (cs.drop off) <;> rfl
      | _ => rfl
    | _ => rfl
  case iAddrS e x i =>
    cases (i.evA E s).int? with
    | none => rfl
    | some p =>
      obtain ⟨kd, k⟩ := p
      simp only
      have key : ∀ v : AV, (match v.elems with
          | some xs => match below xs.length k with
            | some j => match xs[j]? with
              | some y => if y.cells.length = e then some (AV.sv (.ref y.cells), emb s) else none
              | none => none
            | none => none
          | none => none) = (match v.elems with
          | some xs => match below xs.length k with
            | some j => match xs[j]? with
              | some y => if y.cells.length = e then some (AV.sv (.ref y.cells), s) else none
              | none => none
            | none => none
          | none => none : Option (AV × SA)).map emb2 := fun v => by
        cases v.elems with
        | none => rfl
        | some xs =>
          simp only
          cases below xs.length k with
          | none => rfl
          | some j =>
            simp only
            cases xs[j]? with
            | none => rfl
            | some y => simp only; split <;> rfl
      cases x.evA E s with
      | mrow b n e' =>
        simp only
        by_cases h : e = e'
        · rw [if_pos h, if_pos h]; cases below n k <;> rfl
        · rw [if_neg h, if_neg h]; rfl
      | grw b n e' e2 =>
        simp only
        by_cases h : e = e'
        · rw [if_pos h, if_pos h]; cases below n k <;> rfl
        · rw [if_neg h, if_neg h]; rfl
      | sv v => exact key (.sv v)
      | own e2 xs => exact key (.own e2 xs)
      | ptr i2 o2 => exact key (.ptr i2 o2)
      | clo f2 a2 b2 => exact key (.clo f2 a2 b2)
  case iAddrA n e p i =>
    cases (i.evA E s).int? with
    | none => rfl
    | some p2 =>
      simp only
      cases below n p2.2 with
      | none => rfl
      | some j => simp only; cases addrPlus (p.evA E s) (j * e) <;> rfl
  case idxS x i =>
    cases (x.evA E s).str? with
    | none => rfl
    | some l =>
      cases (i.evA E s).int? with
      | none => rfl
      | some p =>
        simp only
        cases below l.length p.2 with
        | none => rfl
        | some j => simp only; cases l[j]? <;> rfl
  case idxA l e n x i =>
    cases x.evA E s with
    | sv v =>
      cases v with
      | agg cs =>
        cases (i.evA E s).int? with
        | none => rfl
        | some p =>
          simp only
          cases below l p.2 with
          | none => rfl
          | some j => simp only; cases takeN n (cs.drop (j * e)) <;> rfl
      | _ => rfl
    | _ => rfl
  case ext x i =>
    cases x.evA E s with
    | sv v =>
      cases v with
      | tup vs => simp only; cases vs[i]? <;> rfl
      | _ => rfl
    | _ => rfl
  case call f args =>
    cases target (f.evA E s) with
    | none => rfl
    | some p =>
      obtain ⟨k, first, cap⟩ := p
      simp only
      show (match doCall E cf q k _ s.bx with | some (r, bx) => _ | none => none) = _
      cases doCall E cf q k (first ++ (args.map fun x => (x.evA E s).arg) ++ cap) s.bx with
      | none => rfl
      | some p => simp only; cases q <;> rfl
  case app e k bytes d a b =>
    split
    · rfl
    · show (if s.mu.contains e = true then _ else _) = _
      split <;> rfl
  case mm mx x y => cases (x.evA E s).int? <;> cases (y.evA E s).int? <;> rfl
  case lenS x => cases (x.evA E s).str? <;> rfl
  case lenL x =>
    cases x.evA E s with
    | mrow i n e => rfl
    | grw i n k e => rfl
    | sv v => simp only; cases AV.elems (.sv v) <;> rfl
    | own e xs => rfl
    | ptr i o => rfl
    | clo f a b => rfl
  case nilChk x =>
    cases x.evA E s with
    | sv v => cases v <;> rfl
    | _ => rfl
  case dfr f =>
    split
    · rfl
    · cases target (f.evA E s) <;> rfl
  case rngS x =>
    split
    · rfl
    · cases (x.evA E s).str? <;> rfl
  case nextS x =>
    split
    · rfl
    · cases x.evA E s with
      | ptr i off =>
        cases off with
        | succ n => rfl
        | zero =>
          show (match s.bx[i]? with | some (.it l pos) => _ | _ => none) = _
          simp only
          cases s.bx[i]? with
          | none => rfl
          | some b =>
            cases b with
            | it l pos =>
              simp only
              cases l[pos]? with
              | none => rfl
              | some c => simp only; split <;> rfl
            | _ => rfl
      | _ => rfl

theorem emb_lazyAfter (s : SA) (op : AOp) : lazyAfter E (emb s) dst op = lazyAfterA E s dst op := by
  cases op <;> simp only [lazyAfter, lazyAfterA, emb_ev]
  · cases dst with
    | none => rfl
    | some d => simp [emb]
  · rename_i p
    cases dst with
    | none => rfl
    | some d =>
      cases p.evA E s with
      | ptr i off => simp [emb]
      | _ => rfl

theorem emb_settle (s : SA) : (emb s).settle = emb s.settle := by
  unfold St.settle SA.settle
  show (match s.lz with | some (d, .tmp u) => _ | _ => _) = _
  cases s.lz with
  | none => rfl
  | some p =>
    obtain ⟨d, l⟩ := p
    cases l with
    | tmp u =>
      simp only [emb_rd, emb_disown, emb_put]
      cases s.rd u <;> rfl
    | cell i off => rfl
    | ret => rfl

theorem emb_sinkArg (s : SA) (x : Opd) : (emb s).sinkArg x = emb (s.sinkArg x) := by
  cases x with
  | t t =>
    simp only [St.sinkArg, SA.sinkArg, emb_rd]
    cases s.rd t with
    | grw i n k e =>
      simp only [emb_sink]
      cases sinkA s (.grw i n k e) with
      | none => rfl
      | some p => exact St.ext' (tm_ins p.2 t _) rfl rfl rfl
    | mrow i n e =>
      simp only [emb_sink]
      cases sinkA s (.mrow i n e) with
      | none => rfl
      | some p => exact St.ext' (tm_ins p.2 t _) rfl rfl rfl
    | _ => rfl
  | _ => rfl

theorem emb_sinkArgs : ∀ (xs : List Opd) (s : SA), (emb s).sinkArgs xs = emb (s.sinkArgs xs)
  | [], s => rfl
  | x :: xs, s => by
    show ((emb s).sinkArg x).sinkArgs xs = _
    rw [emb_sinkArg, emb_sinkArgs xs]
    rfl

theorem emb_pre (q : Bool) (op : AOp) (s : SA) : pre q op (emb s) = emb (preA q op s) := by
  cases q
  · cases op <;> first | rfl | exact emb_settle s | (show (if s.mu.isEmpty = true then _ else _) = _; simp only [preA]; split <;> first | rfl | exact emb_sinkArgs _ s)
  · cases op <;> rfl

theorem emb_opRun (s : SA) (all : List SOp) (o : SOp) : opRun E cf q all o (emb s) = (opRunA E cf q all o s).map emb := by
  have hw : wants all (emb s) o = wantsA all s o := by
    unfold wants wantsA
    cases o.guard with
    | none => rfl
    | some g =>
      obtain ⟨j, b⟩ := g
      simp only
      cases all[j]? with
      | none => rfl
      | some g =>
        simp only
        cases g.dst with
        | none => rfl
        | some d => simp only [emb_rd]; rfl
  unfold opRun opRunA
  rw [hw]
  cases wantsA all s o with
  | none => rfl
  | some b =>
    cases b with
    | true =>
      simp only [stepOp, stepOpA, emb_pre]
      generalize preA q o.op s = s
      simp only [emb_stepV, emb_lazyAfter]
      cases stepVA E cf q o.dst s o.op with
      | none => rfl
      | some p =>
        simp only [Option.map_some, emb2, emb_put]
        cases lazyAfterA E s o.dst o.op <;> rfl
    | false => simp only [emb_put]; rfl

theorem emb_runOps (all : List SOp) : ∀ (ops : List SOp) (s : SA), runOps E cf q all ops (emb s) = (runOpsA E cf q all ops s).map emb
  | [], s => rfl
  | o :: ops, s => by
    simp only [runOps, runOpsA, emb_opRun]
    cases opRunA E cf q all o s with
    | none => rfl
    | some s' => simp only [Option.map_some, emb_runOps all ops s']

theorem emb_rounds {b : St → Option (AExit × St)} {b' : SA → Option (AExit × SA)} (h : ∀ s, b (emb s) = (b' s).map emb2) : ∀ (n : Nat) (s : SA), rounds b n (emb s) = (roundsA b' n s).map emb2
  | 0, s => rfl
  | n + 1, s => by
    simp only [rounds, roundsA, h]
    cases b' s with
    | none => rfl
    | some p =>
      obtain ⟨e, s'⟩ := p
      cases e with
      | normal => simp only [Option.map_some, emb2]; exact emb_rounds h n s'
      | exit id => rfl
      | ret => rfl

theorem emb_tidyHead : ∀ (os : List SOp) (s : SA), tidyHead os (emb s) = emb (tidyHeadA os s)
  | [], _ => rfl
  | o :: os, s => by
    simp only [tidyHead, tidyHeadA]
    split
    · rename_i k t ho
      rw [emb_rd, emb_tidyAt, emb_tidyHead os]
      simp only [ho]
    · rename_i hno
      rw [emb_tidyHead os]
      split
      · rename_i k t ho; exact absurd ho (hno k t)
      · rfl

theorem emb_evC (n : Nat) : ∀ (c : ACode) (s : SA), evC E cf n c (emb s) = (evCA E cf n c s).map emb2 := by
  intro c
  induction c with
  | skip => intro s; rfl
  | region h ops =>
    intro s
    simp only [evC, evCA]
    have h0 : (if (emb s).lk = true then tidyHead (ops.take h) (emb s) else emb s) = emb (if s.lk = true then tidyHeadA (ops.take h) s else s) := by
      show (if s.lk = true then _ else _) = _
      split
      · exact emb_tidyHead _ s
      · rfl
    rw [h0]
    generalize (if s.lk = true then tidyHeadA (ops.take h) s else s) = s
    have h1 := emb_runOps (E := E) (cf := cf) (q := true) ops (ops.take h) { s with lz := none }
    rw [show ({ emb s with lz := none } : St) = emb { s with lz := none } from rfl, h1]
    cases runOpsA E cf true ops (ops.take h) { s with lz := none } with
    | none => rfl
    | some s' =>
      simp only [Option.map_some, emb_runOps]
      cases runOpsA E cf false ops (ops.drop h) s' <;> rfl
  | seq a b iha ihb =>
    intro s
    simp only [evC, evCA, iha]
    cases evCA E cf n a s with
    | none => rfl
    | some p =>
      obtain ⟨e, s'⟩ := p
      cases e with
      | normal => simp only [Option.map_some, emb2]; exact ihb s'
      | exit id => rfl
      | ret => rfl
  | cond c t e iht ihe =>
    intro s
    simp only [evC, evCA, emb_ev]
    cases (c.evA E s).bool? with
    | none => rfl
    | some b =>
      simp only
      split
      · exact iht s
      · exact ihe s
  | block id b ih =>
    intro s
    simp only [evC, evCA, ih]
    cases evCA E cf n b s with
    | none => rfl
    | some p =>
      obtain ⟨e, s'⟩ := p
      cases e with
      | normal => rfl
      | exit j => simp only [Option.map_some, emb2]; split <;> rfl
      | ret => rfl
  | loop b ih =>
    intro s
    simp only [evC, evCA]
    exact emb_rounds (fun s => ih s) n s
  | exit id => intro s; rfl
  | scope b ih => intro s; exact ih s
  | ret => intro s; rfl
  | kill ts => intro s; simp only [evC, evCA, emb_kill]; rfl
  | bad => intro s; rfl

theorem emb_sinkL : ∀ (vs : List AV) (s : SA), sinkL (emb s) vs = (sinkLA s vs).map emb2
  | [], s => rfl
  | v :: vs, s => by
    simp only [sinkL, sinkLA, emb_sink]
    cases sinkA s v with
    | none => rfl
    | some p =>
      simp only [Option.map_some, emb2, emb_sinkL vs p.2]
      cases sinkLA p.2 vs <;> rfl

theorem emb_resOf (s : SA) (r : ARes) : resOf (emb s) r = resOfA s r := by
  cases r with
  | tmp t => show some ((emb s).rd t) = _; rw [emb_rd]; rfl
  | cell a n => show (match cellsAt (emb s) ((emb s).rd a) with | some cs => _ | none => none) = _; rw [emb_rd, emb_cellsAt]; rfl

theorem emb_tidyBs : ∀ (bs : List Box) (i : Nat) (s : SA), tidyBs i bs (emb s) = emb (tidyBsA i bs s)
  | [], _, _ => rfl
  | .frz _ :: bs, i, s => emb_tidyBs bs (i + 1) s
  | .it _ _ :: bs, i, s => emb_tidyBs bs (i + 1) s
  | .live cs :: bs, i, s => by
    simp only [tidyBs, tidyBsA, emb_tidyCs]
    exact emb_tidyBs bs (i + 1) _

theorem emb_tidyIf (b : Bool) (s : SA) : (emb s).tidyIf b = emb (s.tidyIf b) := by
  unfold St.tidyIf SA.tidyIf
  split
  · exact emb_tidyBs s.bx 0 s
  · rfl

theorem emb_endOf (fn : AFn) (s : SA) : endOf E fn (emb s) = (endOfA E fn s).map emb2 := by
  have hr : mapOpt (resOf (emb (s.tidyIf fn.lk))) fn.results = mapOpt (resOfA (s.tidyIf fn.lk)) fn.results := mapOpt_congr fun r _ => emb_resOf _ r
  unfold endOf endOfA
  rw [emb_tidyIf, hr]
  show (if s.df.all E.quiet then _ else _) = _
  split
  · cases mapOpt (resOfA (s.tidyIf fn.lk)) fn.results with
    | none => rfl
    | some vs =>
      match vs with
      | [] => rfl
      | [v] => rfl
      | v :: w :: vs =>
        simp only [emb_sinkL]
        cases sinkLA (s.tidyIf fn.lk) (v :: w :: vs) <;> rfl
  · rfl

theorem lookA_args : ∀ (args : List AV) (i t : Nat), lookA t (argsA i args) = if t < i then .sv .undef else args.getD (t - i) (.sv .undef)
  | [], i, t => by simp [argsA, lookA]
  | v :: vs, i, t => by
    simp only [argsA, lookA_ins, lookA_args vs (i + 1) t]
    by_cases h : t = i
    · subst h; simp
    · rw [if_neg h]
      by_cases h2 : t < i
      · rw [if_pos (by omega), if_pos h2]
      · rw [if_neg (by omega), if_neg h2]
        obtain ⟨k, hk⟩ : ∃ k, t - i = k + 1 := ⟨t - i - 1, by omega⟩
        rw [hk, show t - (i + 1) = k from by omega]; rfl

theorem emb_enter (fn : AFn) (args : List AV) (bx : List Box) : enter fn args bx = emb (enterA fn args bx) := by
  refine St.ext' ?_ rfl rfl rfl
  simp only [enter, emb, enterA]
  apply List.ext_getElem
  · simp; omega
  · intro i h1 h2
    simp only [List.getElem_map, List.getElem_range, SA.rd]
    rw [if_pos (by simpa using h2), lookA_args]
    simp only [Nat.not_lt_zero, if_false, Nat.sub_zero, List.getD_eq_getElem?_getD]
    by_cases h : i < args.length
    · rw [List.getElem_append_left h]; simp [h]
    · rw [List.getElem_append_right (by omega)]; simp [h]

theorem evP_of_A {n f : Nat} {vs : List SV} {r : AV} (h : evPA E n f vs = some r) : evP E n f vs = some r := by
  have e : evP E n f vs = evPA E n f vs := by
    unfold evP evPA
    cases E.code f with
    | none => rfl
    | some fn =>
      simp only [emb_enter, emb_evC]
      cases evCA E (evF E n) n fn.body (enterA fn (vs.map .sv) []) with
      | none => rfl
      | some p =>
        obtain ⟨e, s⟩ := p
        have key : (match endOf E fn (emb s) with
            | some (v, s') => match v with
              | .own e xs => some (AV.own e xs)
              | .sv x => some (AV.sv x)
              | v => match sink s' v with
                | some (x, _) => some (AV.sv x)
                | none => none
            | none => none) = (match endOfA E fn s with
            | some (v, s') => match v with
              | .own e xs => some (AV.own e xs)
              | .sv x => some (AV.sv x)
              | v => match sinkA s' v with
                | some (x, _) => some (AV.sv x)
                | none => none
            | none => none) := by
          rw [emb_endOf]
          cases endOfA E fn s with
          | none => rfl
          | some p =>
            obtain ⟨v, s'⟩ := p
            simp only [Option.map_some, emb2]
            cases v with
            | own e xs => rfl
            | sv x => rfl
            | ptr i o => simp only [emb_sink]; cases sinkA s' (.ptr i o) <;> rfl
            | mrow i n k => simp only [emb_sink]; cases sinkA s' (.mrow i n k) <;> rfl
            | grw i n k e => simp only [emb_sink]; cases sinkA s' (.grw i n k e) <;> rfl
            | clo f a b => rfl
        cases e with
        | normal => exact key
        | exit id => rfl
        | ret => exact key
  rw [e]; exact h

/-! ### Loops -/

theorem roundsA_step {b : SA → Option (AExit × SA)} {n : Nat} {s s1 : SA} (h : b s = some (.normal, s1)) : roundsA b (n + 1) s = roundsA b n s1 := by
  simp only [roundsA, h]

theorem roundsA_out {b : SA → Option (AExit × SA)} {n : Nat} {s s1 : SA} {e : AExit} (h : b s = some (e, s1)) (he : e ≠ .normal) : roundsA b (n + 1) s = some (e, s1) := by
  simp only [roundsA, h]
  cases e with
  | normal => exact absurd rfl he
  | _ => rfl

theorem autoA_sv {n f : Nat} {vs : List SV} {v : SV} (h : evPA E n f vs = some (.sv v)) (hv : AV.elems (.sv v) = none) : autoF E f vs = some (.sv v) := autoF_sv (evP_of_A h) hv

theorem autoA_sl {n f : Nat} {vs : List SV} {r : AV} {xs : List SV} (h : evPA E n f vs = some r) (hv : r.elems = some xs) : autoF E f vs = some (.sv (.sl xs)) := autoF_sl (evP_of_A h) hv

attribute [simp] doAppMA SA.sinkArg SA.sinkArgs evCA runOpsA preA SA.settle opRunA wantsA stepOpA stepVA enterA argsA Opd.evA SA.rd lookA insA delA SA.put SA.set lazyAfterA SA.kill optIntA endOfA resOfA sinkA sinkQA sinksA sinkLA SA.disown Opd.disownA appBaseA doAppA doAppQA SA.forget AV.isOwn cellsAtA doStoreA SA.tidyIf tidyBsA tidyCsA tidy1A tidyR1A linkAtA tidyAtA tidyHeadA

end Go.Ev

set_option linter.unusedSimpArgs false
set_option linter.unusedVariables false
namespace Go.Ev
variable {E : Env}

end Go.Ev
