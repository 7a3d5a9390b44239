/- The operations that leave the world as it is. -/
/- Arithmetic, comparisons, conversions, indexes and slices: the world stays as it is. -/
/- Tests against nil, indexes, slices, fields, loads: the world stays as it is. -/
/- Addresses, fields, loads, function values: the world stays as it is. -/
/- New blocks, boxes, and boxes that are written no more. -/
import Derived.Test.YtkpjijiiegdcaaaGreatDoorMaa
import Derived.Laws.Strings
import Derived.Laws.Entries
import Derived.ChangeKeysEq
import Derived.Laws.Cells
namespace Go.Ev
variable {P : Program} {E : Env} {γ : Gh} {a : Act} {w : World} {s : St}

def GlobOK (E : Env) (γ : Gh) : Prop := ∀ g, RepS γ.F (.ref (E.glob g)) (.pointer (some ⟨g, 0, none⟩))

theorem constSV_rep {F : Frz} {v : Value} {x : SV} (h : constSV v = some x) : RepS F x v := by
  unfold constSV at h
  split at h <;> simp only [Option.some.injEq, reduceCtorEq] at h <;> subst h <;> first | exact .bool _ | exact .int _ _ | exact .flt _ _ | exact .nilP | exact .nilS | exact .nilI | exact .nilF | skip
  rename_i b
  have : b = ⟨b.data.toList.toArray⟩ := by simp
  rw [show (Value.string b) = .string ⟨b.data.toList.toArray⟩ from by simp]
  exact .str _

def locOf : Opd → Loc
  | .t n => .tmp n
  | _ => .ret

theorem ev_rep (hR : R P γ a w s) (hG : GlobOK E γ) {o : Operand} {x : Opd} (h : opd o = some x) : RepA P γ w (locOf x) (x.ev E s) (a.eval o) := by
  cases o with
  | tmp t =>
    simp only [opd, Option.some.injEq] at h; subst h
    simp only [Opd.ev, locOf, Act.eval]
    by_cases ht : t < s.tm.length
    · exact hR.tm t ht
    · have : s.rd t = .sv .undef := by
        simp only [St.rd, List.getD_eq_getElem?_getD]
        rw [List.getElem?_eq_none (Nat.le_of_not_lt ht)]; rfl
      rw [this]; exact .sv _ _ _ (.undef _)
  | const v =>
    simp only [opd, Option.map_eq_some_iff] at h
    obtain ⟨y, hy, rfl⟩ := h
    exact .sv _ _ _ (constSV_rep hy)
  | global g =>
    simp only [opd, Option.some.injEq] at h; subst h
    exact .sv _ _ _ (hG g)
  | func f =>
    simp only [opd, Option.some.injEq] at h; subst h
    exact .sv _ _ _ (.fn f [] [] #[] #[] rfl rfl (by simp) (by simp))

section inv
variable {ℓ : Loc} {av : AV} {u : Value}

theorem RepA.sv_inv {v : SV} (h : RepA P γ w ℓ (.sv v) u) : RepS γ.F v u := by cases h; assumption

theorem RepS.tup_inv {F : Frz} {l : List SV} (h : RepS F (.tup l) u) : ∃ vs : Array Value, u = .tuple vs ∧ vs.size = l.length ∧ ∀ (j : Nat) (x : SV), l[j]? = some x → RepS F x (vs.getD j Go.undef) := by
  cases h with | tup _ vs hs hr => exact ⟨vs, rfl, hs, hr⟩

theorem RepS.agg_inv {F : Frz} {l : List SV} (h : RepS F (.agg l) u) : ∃ vs : Array Value, u = .agg vs ∧ vs.size = l.length ∧ (∀ (j : Nat) (x : SV), l[j]? = some x → x.one = true) ∧ ∀ (j : Nat) (x : SV), l[j]? = some x → RepS F x (vs.getD j Go.undef) := by
  cases h with | agg _ vs hs ho hr => exact ⟨vs, rfl, hs, ho, hr⟩

theorem RepS.ref_inv {F : Frz} {cs : List SV} (h : RepS F (.ref cs) u) : ∃ (b o : Nat) (vs : Nat → Value), u = .pointer (some ⟨b, o, none⟩) ∧ (∀ j, j < cs.length → F b (o + j) (vs j)) ∧ (∀ (j : Nat) (x : SV), cs[j]? = some x → x.one = true) ∧ ∀ (j : Nat) (x : SV), cs[j]? = some x → RepS F x (vs j) := by
  cases h with | ref _ b o vs hF ho hr => exact ⟨b, o, vs, rfl, hF, ho, hr⟩

/-- A slice: empty, or in a block whose cells stay. -/
theorem RepS.sl_inv {F : Frz} {xs : List SV} (h : RepS F (.sl xs) u) : (xs = [] ∧ ∃ a c, u = .slice a 0 c) ∨
    ∃ (b o c k : Nat) (vs : Nat → Value), u = .slice (some ⟨b, o, none⟩) xs.length c ∧ 0 < k ∧ xs ≠ [] ∧ xs.length ≤ c ∧ (∀ x ∈ xs, x.cells.length = k) ∧ (∀ j, j < xs.length * k → F b (o + j) (vs j)) ∧
      (∀ (j : Nat) (x : SV), (flat xs)[j]? = some x → x.one = true) ∧ ∀ (j : Nat) (x : SV), (flat xs)[j]? = some x → RepS F x (vs j) := by
  cases h with
  | slE a c => exact .inl ⟨rfl, a, c, rfl⟩
  | sl _ b o c k vs hk hne hc hl hF ho hr => exact .inr ⟨b, o, c, k, vs, rfl, hk, hne, hc, hl, hF, ho, hr⟩

theorem RepA.int (h : RepA P γ w ℓ av u) {k : IntKind} {n : Int} (e : av.int? = some (k, n)) : u = .int k n := by
  unfold AV.int? at e
  split at e <;> simp only [Option.some.injEq, Prod.mk.injEq, reduceCtorEq] at e
  obtain ⟨rfl, rfl⟩ := e
  cases h.sv_inv; rfl

theorem RepA.str (h : RepA P γ w ℓ av u) {l : List UInt8} (e : av.str? = some l) : u = .string ⟨l.toArray⟩ := by
  unfold AV.str? at e
  split at e <;> simp only [Option.some.injEq, reduceCtorEq] at e
  subst e
  cases h.sv_inv; rfl

theorem RepA.bool (h : RepA P γ w ℓ av u) {b : Bool} (e : av.bool? = some b) : u = .bool b := by
  unfold AV.bool? at e
  split at e <;> simp only [Option.some.injEq, reduceCtorEq] at e
  subst e
  cases h.sv_inv; rfl

theorem RepA.sv? (h : RepA P γ w ℓ av u) {v : SV} (e : av.sv? = some v) : RepS γ.F v u := by
  unfold AV.sv? at e
  split at e <;> simp only [Option.some.injEq, reduceCtorEq] at e
  subst e
  exact h.sv_inv

theorem RepO.rep {e : Nat} {xs : List SV} (h : RepO P γ w ℓ e xs u) : RepS γ.F (.sl xs) u := by
  obtain ⟨vs, g, h1, h2, h3, h4, h5, h6, h7, h8⟩ := h
  rcases h1.2 with ⟨rfl, _⟩ | ⟨g', cap, cur, rfl, _, _, hc, _⟩
  · simp [Value.ownBlock] at h5
  · have : g' = g := by simpa [Value.ownBlock] using h5
    subst this
    by_cases hx : xs = []
    · subst hx; exact .slE _ _
    · refine .sl xs g' 0 cap (P.cellsOf e) (fun j => vs.getD j undef) h2 hx hc h3 (fun j hj => ?_) (fun j x hx => (h4 j x hx).1) (fun j x hx => ?_)
      · have hl : j < vs.length := by rw [h1.1]; exact hj
        rw [Nat.zero_add]
        have := h7 j vs[j] (by simp [hl])
        simpa [List.getD_eq_getElem?_getD, hl] using this
      · obtain ⟨_, v, hv, hr⟩ := h4 j x hx
        simpa [List.getD_eq_getElem?_getD, hv] using hr

theorem RepA.elems (h : RepA P γ w ℓ av u) {xs : List SV} (e : av.elems = some xs) : RepS γ.F (.sl xs) u := by
  unfold AV.elems at e
  split at e <;> simp only [Option.some.injEq, reduceCtorEq] at e <;> subst e
  · exact h.sv_inv
  · cases h.sv_inv; exact .slE _ _
  · cases h.sv_inv; exact .slE _ _
  · cases h with | own _ _ _ h => exact h.rep

theorem RepA.copy (h : RepA P γ w ℓ av u) (ℓ' : Loc) : RepA P γ w ℓ' av.copy u := by
  cases hn : av.isOwn with
  | true =>
    cases h with
    | own e xs u h => exact .sv _ _ _ h.rep
    | _ => simp [AV.isOwn] at hn
  | false =>
    have : av.copy = av := by cases av <;> first | rfl | simp [AV.isOwn] at hn
    rw [this]
    exact h.keepN hn (fun _ _ _ h => h) (fun _ _ h => h)

theorem AV.copy_notOwn (av : AV) : av.copy.isOwn = false := by cases av <;> rfl

theorem RepA.arg (h : RepA P γ w ℓ av u) (ℓ' : Loc) : RepA P γ w ℓ' av.arg u ∧ av.arg.isOwn = false := by
  cases h with
  | sv v u h => exact ⟨.sv _ _ _ h.can, rfl⟩
  | own e xs u h => exact ⟨.sv _ _ _ h.rep, rfl⟩
  | ptr i off b h => exact ⟨.ptr _ _ _ _ h, rfl⟩
  | mrow i n k b c h hc => exact ⟨.mrow _ _ _ _ _ _ h hc, rfl⟩
  | grw i n k e b c h hs hc hk hk0 => exact ⟨.grw _ _ _ _ _ _ _ h hs hc hk hk0, rfl⟩
  | clo f a b va vb ha hb oa ob ra rb => exact ⟨(RepA.clo _ f a b va vb ha hb oa ob ra rb).keepN rfl (fun _ _ _ h => h) (fun _ _ h => h), rfl⟩

end inv

/-- What an operation comes to. -/
def Done (P : Program) (γ : Gh) (a : Act) (w : World) (o : Oper) (av : AV) (s1 : St) : Prop :=
  ∃ v w' γ', ((execOp a.eval o).run P w = .ok (.value v) w' ∨ (execOp a.eval o).run P w = .ok .skip w' ∧ v = undef) ∧ Ext γ w γ' w' ∧ R P γ' a w' s1 ∧ RepA P γ' w' .ret av v

theorem Done.same (hR : R P γ a w s) {o : Oper} {v : Value} (hrun : (execOp a.eval o).run P w = .ok (.value v) w) {ℓ : Loc} {av : AV} (hv : RepA P γ w ℓ av v) (hn : av.isOwn = false) : Done P γ a w o av s :=
  ⟨v, w, γ, .inl hrun, Ext.refl _ _, hR, hv.keepN hn (fun _ _ _ h => h) (fun _ _ h => h)⟩

theorem Done.sv (hR : R P γ a w s) {o : Oper} {v : Value} {x : SV} (hrun : (execOp a.eval o).run P w = .ok (.value v) w) (hv : RepS γ.F x v) : Done P γ a w o (.sv x) s :=
  Done.same hR hrun (ℓ := .ret) (.sv _ _ _ hv) rfl

section ops
variable {o : Oper} {cf : CallF} {q : Bool} {s1 : St} {av : AV}

theorem op_mov (hR : R P γ a w s) (hG : GlobOK E γ) {x : Operand} {y : Opd} (ho : o.op = .move x) (hx : opd x = some y) : Done P γ a w o (y.ev E s).copy s :=
  Done.same hR (v := a.eval x) (by simp only [execOp, ho]; rfl) ((ev_rep hR hG hx).copy .ret) (AV.copy_notOwn _)

theorem op_pick (hR : R P γ a w s) (hG : GlobOK E γ) {c x y : Operand} {c' x' y' : Opd} (ho : o.op = .pick c x y) (hc : opd c = some c') (hx : opd x = some x') (hy : opd y = some y')
    {t : Bool} (ht : (c'.ev E s).bool? = some t) : Done P γ a w o (if t then (x'.ev E s).copy else (y'.ev E s).copy) s := by
  have h1 := (ev_rep hR hG hc).bool ht
  refine Done.same hR (v := if t then a.eval x else a.eval y) (ℓ := .ret) ?_ ?_ ?_
  · simp only [execOp, ho, h1, asBool]; rfl
  · cases t
    · exact (ev_rep hR hG hy).copy .ret
    · exact (ev_rep hR hG hx).copy .ret
  · cases t <;> exact AV.copy_notOwn _

/-- What a temporary owned is handed on. -/
theorem R.disown (hR : R P γ a w s) {t : Nat} (ht : t < s.tm.length) : R P (γ.mv (.tmp t) .ret) a w (s.disown t) ∧ RepA P (γ.mv (.tmp t) .ret) w .ret (s.rd t) (a.tmps.getD t undef) := by
  have hv := hR.tm t ht
  refine ⟨?_, hv.mv_same⟩
  have hlen : (s.disown t).tm.length = s.tm.length := by unfold St.disown; split <;> simp
  refine ⟨?_, by rw [hlen]; exact hR.sz, ?_, ?_, ?_, ?_⟩
  · have : (s.disown t).bx = s.bx := by unfold St.disown; split <;> rfl
    rw [this]; exact hR.bx.mv (by simp)
  · intro t' ht'
    rw [hlen] at ht'
    by_cases e : t' = t
    · subst e
      unfold St.disown
      split
      · rename_i e' xs hown
        simp only [St.rd, List.getD_eq_getElem?_getD, List.getElem?_set, ht', if_true, Option.getD_some]
        rw [hown] at hv
        cases hv with | own _ _ _ h => exact .sv _ _ _ (show RepS γ.F _ _ from RepO.rep h)
      · rename_i hno
        refine hv.keepN ?_ (fun _ _ _ h => h) (fun _ _ h => h)
        cases hx : s.rd t' with
        | own e xs => exact absurd hx (hno e xs)
        | _ => rfl
    · have : (s.disown t).rd t' = s.rd t' := by
        unfold St.disown
        split
        · simp only [St.rd, List.getD_eq_getElem?_getD, List.getElem?_set]
          rw [if_neg (fun h => e h.symm)]
        · rfl
      rw [this]
      exact (hR.tm t' ht').mv_other (by simpa using e)
  · have : (s.disown t).lz = s.lz := by unfold St.disown; split <;> rfl
    rw [this]
    intro d ℓ hd
    have := hR.lz d ℓ hd
    cases ℓ <;> exact this
  · have : (s.disown t).df = s.df := by unfold St.disown; split <;> rfl
    rw [this]; exact hR.dl
  · have : (s.disown t).df = s.df := by unfold St.disown; split <;> rfl
    rw [this]
    intro i d c hd hc
    exact hR.df i d c hd hc

theorem op_asg (hR : R P γ a w s) (hG : GlobOK E γ) {x : Operand} {y : Opd} (ho : o.op = .assign x) (hx : opd x = some y) (h : stepV E cf q o.dst s (.asg y) = some (av, s1)) : Done P γ a w o av s1 := by
  have hrun : (execOp a.eval o).run P w = .ok (.value (a.eval x)) w := by simp only [execOp, ho]; rfl
  have hv := ev_rep hR hG hx
  simp only [stepV] at h
  split at h
  · rename_i e xs hown
    split at h
    · simp at h
    simp only [Option.some.injEq, Prod.mk.injEq] at h
    obtain ⟨rfl, rfl⟩ := h
    cases y with
    | t n =>
      have hn : n < s.tm.length := by
        refine Decidable.byContradiction fun hn => ?_
        simp only [Opd.ev, St.rd, List.getD_eq_getElem?_getD] at hown
        rw [List.getElem?_eq_none (by omega)] at hown
        simp at hown
      obtain ⟨h1, h2⟩ := hR.disown hn
      cases x with
      | tmp t =>
        simp only [opd, Option.some.injEq, Opd.t.injEq] at hx
        subst hx
        simp only [Opd.ev] at hown
        rw [hown] at h2
        exact ⟨_, w, _, .inl hrun, Gh.mv_ext _ _ _ _, h1, h2⟩
      | const v => simp only [opd, Option.map_eq_some_iff] at hx; obtain ⟨_, _, h⟩ := hx; simp at h
      | global g => simp [opd] at hx
      | func f => simp [opd] at hx
    | c v => simp [Opd.ev] at hown
    | g n => simp [Opd.ev] at hown
  · rename_i hno
    simp only [Option.some.injEq, Prod.mk.injEq] at h
    obtain ⟨rfl, rfl⟩ := h
    refine Done.same hR hrun hv ?_
    cases hx : y.ev E s with
    | own e xs => exact absurd hx (hno e xs)
    | _ => rfl

theorem op_ext (hR : R P γ a w s) (hG : GlobOK E γ) {x : Operand} {y : Opd} {i : Nat} (ho : o.op = .extract x i) (hx : opd x = some y) (h : stepV E cf q o.dst s (.ext y i) = some (av, s1)) : Done P γ a w o av s1 := by
  have hv := ev_rep hR hG hx
  simp only [stepV] at h
  split at h
  · rename_i vs hy
    split at h
    · rename_i v hvi
      simp only [Option.some.injEq, Prod.mk.injEq] at h
      obtain ⟨rfl, rfl⟩ := h
      rw [hy] at hv
      obtain ⟨us, he, hs, hr⟩ := hv.sv_inv.tup_inv
      have hlt : i < us.size := by rw [hs]; exact (List.getElem?_eq_some_iff.1 hvi).1
      have := hr i v hvi
      simp only [Array.getD_eq_getD_getElem?, Array.getElem?_eq_getElem hlt, Option.getD_some] at this
      refine Done.sv hR ?_ this
      simp only [execOp, ho, he]
      simp [Instr.extract, Array.getElem?_eq_getElem hlt]
    · simp at h
  · simp at h

end ops
end Go.Ev

namespace Go.Ev
variable {P : Program} {E : Env} {γ : Gh} {a : Act} {w : World} {s : St} {o : Oper} {cf : CallF} {q : Bool} {s1 : St} {av : AV}

theorem guard_int (op : BinOp) (t : TypeId) (x y : Operand) (k k' : IntKind) (m n : Int) : (eqGuard op t x y (.int k m) (.int k' n)).run P w = .ok () w := by
  unfold eqGuard
  cases op <;> simp
theorem guard_flt (op : BinOp) (t : TypeId) (x y : Operand) (k k' : FloatKind) (m n : Nat) : (eqGuard op t x y (.float k m) (.float k' n)).run P w = .ok () w := by
  unfold eqGuard
  cases op <;> simp
theorem guard_str (op : BinOp) (t : TypeId) (x y : Operand) (m n : ByteArray) : (eqGuard op t x y (.string m) (.string n)).run P w = .ok () w := by
  unfold eqGuard
  cases op <;> simp
theorem guard_bool (op : BinOp) (t : TypeId) (x y : Operand) (m n : Bool) : (eqGuard op t x y (.bool m) (.bool n)).run P w = .ok () w := by
  unfold eqGuard
  cases op <;> simp

theorem bin_int {op : BinOp} {t : TypeId} {k k' : IntKind} {m n : Int} {r : SV} (h : binSV op (.int k m) (.int k' n) = some r) :
    ∃ z, (binOp op t (.int k m) (.int k' n)).run P w = .ok z w ∧ RepS γ.F r z := by
  cases op
  case shl =>
    simp only [binSV] at h
    split at h
    · simp at h
    · simp only [Option.some.injEq] at h; subst h
      refine ⟨_, ?_, .int _ _⟩
      simp [binOp, Op.shift, *]
  case shr =>
    simp only [binSV] at h
    split at h
    · simp at h
    · simp only [Option.some.injEq] at h; subst h
      refine ⟨_, ?_, .int _ _⟩
      simp [binOp, Op.shift, *]
  all_goals
    simp only [binSV] at h
    by_cases hk : k = k'
    · subst hk
      simp only [if_true] at h
      first
        | (simp only [Option.some.injEq] at h; subst h
           exact ⟨_, by first | (simp only [binOp, Op.intArith, ne_eq, not_true_eq_false, if_false]; rfl) | (simp only [binOp, Op.intCmp, ne_eq, not_true_eq_false, if_false]; rfl) | (simp only [binOp, Op.intBits, ne_eq, not_true_eq_false, if_false]; rfl), by first | exact .int _ _ | exact .bool _⟩)
        | (split at h
           · simp at h
           · simp only [Option.some.injEq] at h; subst h
             exact ⟨_, by simp [binOp, Op.intDiv, *]; try rfl, .int _ _⟩)
    · rw [if_neg hk] at h; simp at h

theorem bin_str {op : BinOp} {t : TypeId} {m n : List UInt8} {r : SV} (h : binSV op (.str m) (.str n) = some r) :
    ∃ z, (binOp op t (.string ⟨m.toArray⟩) (.string ⟨n.toArray⟩)).run P w = .ok z w ∧ RepS γ.F r z := by
  cases op <;> simp only [binSV, reduceCtorEq] at h
  case add =>
    split at h
    · rename_i hl
      simp only [Option.some.injEq] at h; subst h
      refine ⟨.string ⟨(m ++ n).toArray⟩, ?_, .str _⟩
      have hs : ¬ ((((⟨m.toArray⟩ : ByteArray).size + (⟨n.toArray⟩ : ByteArray).size : Nat) : Int) > IntKind.i64.max) := by
        simp only [ByteArray.size, List.size_toArray, IntKind.max, IntKind.signed, IntKind.bits, if_true]
        omega
      have ha : (⟨m.toArray⟩ : ByteArray) ++ (⟨n.toArray⟩ : ByteArray) = ⟨(m ++ n).toArray⟩ := by
        apply ByteArray.ext
        simp
      simp only [binOp_string_add, Op.stringOp, hs, if_false, ha]
      rfl
    · simp at h
  all_goals
    simp only [Option.some.injEq] at h; subst h
    exact ⟨_, by simp [binOp, Op.stringOp]; try rfl, .bool _⟩

theorem bin_flt {op : BinOp} {t : TypeId} {k k' : FloatKind} {m n : Nat} {r : SV} (h : binSV op (.flt k m) (.flt k' n) = some r) :
    ∃ z, (binOp op t (.float k m) (.float k' n)).run P w = .ok z w ∧ RepS γ.F r z := by
  simp only [binSV] at h
  by_cases hk : k = k'
  · subst hk
    simp only [if_true] at h
    cases op <;> simp only [reduceCtorEq, Option.some.injEq] at h
    case add => obtain ⟨x, hx, rfl⟩ := Option.map_eq_some_iff.1 h; exact ⟨_, by simp [binOp, Op.floatArith, hx], .flt _ _⟩
    case sub => obtain ⟨x, hx, rfl⟩ := Option.map_eq_some_iff.1 h; exact ⟨_, by simp [binOp, Op.floatArith, hx], .flt _ _⟩
    case mul => obtain ⟨x, hx, rfl⟩ := Option.map_eq_some_iff.1 h; exact ⟨_, by simp [binOp, Op.floatArith, hx], .flt _ _⟩
    case quo => obtain ⟨x, hx, rfl⟩ := Option.map_eq_some_iff.1 h; exact ⟨_, by simp [binOp, Op.floatArith, hx], .flt _ _⟩
    all_goals
      subst h
      exact ⟨_, by simp [binOp, Op.floatCmp]; try rfl, .bool _⟩
  · rw [if_neg hk] at h; simp at h

theorem op_bin (hR : R P γ a w s) (hG : GlobOK E γ) {op : BinOp} {t t' : TypeId} {x y : Operand} {x' y' : Opd} (ho : o.op = .binOp op t x y t') (hx : opd x = some x') (hy : opd y = some y')
    (h : stepV E cf q o.dst s (.bin op x' y') = some (av, s1)) : Done P γ a w o av s1 := by
  simp only [stepV] at h
  split at h
  · rename_i u v hu hv
    split at h
    · rename_i r hr
      simp only [Option.some.injEq, Prod.mk.injEq] at h
      obtain ⟨rfl, rfl⟩ := h
      have h1 := (ev_rep hR hG hx).sv? hu
      have h2 := (ev_rep hR hG hy).sv? hv
      have key : ∃ z, (do eqGuard op t x y (a.eval x) (a.eval y); binOp op t (a.eval x) (a.eval y) : Sem Value).run P w = .ok z w ∧ RepS γ.F r z := by
        generalize a.eval x = X at *
        generalize a.eval y = Y at *
        cases u <;> cases v <;> try (simp [binSV] at hr; done)
        · cases h1; cases h2
          obtain ⟨z, h3, h4⟩ := bin_int (P := P) (w := w) (t := t) (γ := γ) hr
          exact ⟨z, by simp [guard_int, h3], h4⟩
        · cases h1; cases h2
          obtain ⟨z, h3, h4⟩ := bin_flt (P := P) (w := w) (t := t) (γ := γ) hr
          exact ⟨z, by simp [guard_flt, h3], h4⟩
        · cases h1; cases h2
          obtain ⟨z, h3, h4⟩ := bin_str (P := P) (w := w) (t := t) (γ := γ) hr
          exact ⟨z, by simp [guard_str, h3], h4⟩
      obtain ⟨z, h3, h4⟩ := key
      refine Done.sv hR ?_ h4
      simp only [execOp, ho]
      simp only [Sem.run_bind, h3, Result.andThen_ok]
      rfl
    · simp at h
  · simp at h

theorem equal_bool {t : TypeId} (ht : P.underlying t = some .bool) (m n : Bool) : (Op.equal t (.bool m) (.bool n)).run P w = .ok (m == n) w := by
  have key : ∀ d, (Op.equalIn (d + 1) t (.bool m) (.bool n)).run P w = .ok (m == n) w := fun d => by
    simp [Op.equalIn, run_underlying ht]
  exact key 9999

theorem op_eqB (hR : R P γ a w s) (hG : GlobOK E γ) {op : BinOp} {ng : Bool} (hop : op = (if ng then .neq else .eql)) {t t' : TypeId} {x y : Operand} {x' y' : Opd} (ho : o.op = .binOp op t x y t') (ht : P.underlying t = some .bool)
    (hx : opd x = some x') (hy : opd y = some y') (h : stepV E cf q o.dst s (.eqB ng x' y') = some (av, s1)) : Done P γ a w o av s1 := by
  simp only [stepV] at h
  split at h
  · rename_i u v hu hv
    simp only [Option.some.injEq, Prod.mk.injEq] at h
    obtain ⟨rfl, rfl⟩ := h
    have h1 := (ev_rep hR hG hx).bool hu
    have h2 := (ev_rep hR hG hy).bool hv
    refine Done.sv hR ?_ (.bool _)
    simp only [execOp, ho, h1, h2]
    subst hop
    cases ng
    · simp [guard_bool, binOp, equal_bool ht]
    · simp [guard_bool, binOp, equal_bool ht]
  · simp at h

theorem op_not (hR : R P γ a w s) (hG : GlobOK E γ) {t : TypeId} {x : Operand} {x' : Opd} (ho : o.op = .unOp .not t x) (hx : opd x = some x')
    (h : stepV E cf q o.dst s (.not x') = some (av, s1)) : Done P γ a w o av s1 := by
  simp only [stepV] at h
  split at h
  · rename_i b hb
    simp only [Option.some.injEq, Prod.mk.injEq] at h
    obtain ⟨rfl, rfl⟩ := h
    have h1 := (ev_rep hR hG hx).bool hb
    refine Done.sv hR ?_ (.bool _)
    simp only [execOp, ho, h1, Op.unary]
    rfl
  · simp at h

theorem op_neg (hR : R P γ a w s) (hG : GlobOK E γ) {t : TypeId} {x : Operand} {x' : Opd} (ho : o.op = .unOp .neg t x) (hx : opd x = some x')
    (h : stepV E cf q o.dst s (.neg x') = some (av, s1)) : Done P γ a w o av s1 := by
  simp only [stepV] at h
  split at h
  · rename_i k n hb
    simp only [Option.some.injEq, Prod.mk.injEq] at h
    obtain ⟨rfl, rfl⟩ := h
    have h1 := (ev_rep hR hG hx).int hb
    refine Done.sv hR ?_ (.int _ _)
    simp only [execOp, ho, h1, Op.unary, Op.intArith]
    rfl
  · simp at h

theorem op_cpl (hR : R P γ a w s) (hG : GlobOK E γ) {t : TypeId} {x : Operand} {x' : Opd} (ho : o.op = .unOp .xor t x) (hx : opd x = some x')
    (h : stepV E cf q o.dst s (.cpl x') = some (av, s1)) : Done P γ a w o av s1 := by
  simp only [stepV] at h
  split at h
  · rename_i k n hb
    simp only [Option.some.injEq, Prod.mk.injEq] at h
    obtain ⟨rfl, rfl⟩ := h
    have h1 := (ev_rep hR hG hx).int hb
    refine Done.sv hR ?_ (.int _ _)
    simp only [execOp, ho, h1, Op.unary, Op.intBits]
    rfl
  · simp at h

theorem op_i2i (hR : R P γ a w s) (hG : GlobOK E γ) {src dst : TypeId} {x : Operand} {x' : Opd} {k0 k : IntKind} (ho : o.op = .convert src dst x) (hs : P.underlying src = some (.int k0)) (hd : P.underlying dst = some (.int k)) (hx : opd x = some x')
    (h : stepV E cf q o.dst s (.i2i k x') = some (av, s1)) : Done P γ a w o av s1 := by
  simp only [stepV] at h
  split at h
  · rename_i k' n hb
    simp only [Option.some.injEq, Prod.mk.injEq] at h
    obtain ⟨rfl, rfl⟩ := h
    have h1 := (ev_rep hR hG hx).int hb
    refine Done.sv hR ?_ (.int _ _)
    simp only [execOp, ho, h1]
    simp [convert, run_underlying hs, run_underlying hd, Conv.intToInt]
  · simp at h

theorem op_i2f (hR : R P γ a w s) (hG : GlobOK E γ) {src dst : TypeId} {x : Operand} {x' : Opd} {k0 : IntKind} {k : FloatKind} (ho : o.op = .convert src dst x) (hs : P.underlying src = some (.int k0)) (hd : P.underlying dst = some (.float k)) (hx : opd x = some x')
    (h : stepV E cf q o.dst s (.i2f k x') = some (av, s1)) : Done P γ a w o av s1 := by
  simp only [stepV] at h
  split at h
  · rename_i k' n hb
    simp only [Option.some.injEq, Prod.mk.injEq] at h
    obtain ⟨rfl, rfl⟩ := h
    have h1 := (ev_rep hR hG hx).int hb
    refine Done.sv hR ?_ (.flt _ _)
    simp only [execOp, ho, h1]
    simp [convert, run_underlying hs, run_underlying hd, Conv.intToFloat]
  · simp at h

theorem op_s2s (hR : R P γ a w s) (hG : GlobOK E γ) {src dst : TypeId} {x : Operand} {x' : Opd} (ho : o.op = .convert src dst x) (hs : P.underlying src = some .string) (hd : P.underlying dst = some .string) (hx : opd x = some x')
    (h : stepV E cf q o.dst s (.s2s x') = some (av, s1)) : Done P γ a w o av s1 := by
  simp only [stepV] at h
  split at h
  · rename_i l hb
    simp only [Option.some.injEq, Prod.mk.injEq] at h
    obtain ⟨rfl, rfl⟩ := h
    have h1 := (ev_rep hR hG hx).str hb
    refine Done.sv hR ?_ (.str _)
    simp only [execOp, ho, h1]
    simp [convert, run_underlying hs, run_underlying hd]
  · simp at h

theorem op_nilChk (hR : R P γ a w s) (hG : GlobOK E γ) {x : Operand} {x' : Opd} (ho : o.op = .nilCheck x) (hx : opd x = some x')
    (h : stepV E cf q o.dst s (.nilChk x') = some (av, s1)) : Done P γ a w o av s1 := by
  have hv := ev_rep hR hG hx
  simp only [stepV] at h
  split at h <;> simp only [Option.some.injEq, Prod.mk.injEq, reduceCtorEq] at h <;> obtain ⟨rfl, rfl⟩ := h
  · rename_i i off he
    rw [he] at hv
    generalize hX : a.eval x = X at hv
    cases hv with
    | ptr _ _ b hb => exact Done.same hR (v := .pointer (some ⟨b, off, none⟩)) (ℓ := .ret) (by simp only [execOp, ho, hX]; rfl) (.ptr _ _ _ _ hb) rfl
  · rename_i cs he
    rw [he] at hv
    have hr := hv.sv_inv
    obtain ⟨b, off, vs, hu, _⟩ := hr.ref_inv
    exact Done.sv hR (by simp only [execOp, ho]; rw [hu]; rfl) (hu ▸ hr)

end Go.Ev

set_option linter.unusedSimpArgs false
set_option linter.unusedVariables false
namespace Go.Ev
variable {P : Program} {E : Env} {γ : Gh} {a : Act} {w : World} {s : St} {o : Oper} {cf : CallF} {q : Bool} {s1 : St} {av : AV}

theorem equal_iface {t : TypeId} {ms : Array (String × TypeId)} (ht : P.underlying t = some (.interface ms)) (u : Value) (b : Bool) (hu : (b = true ∧ u = .nilIface) ∨ (b = false ∧ ∃ t v, u = .iface t v)) :
    (Op.equal t u .nilIface).run P w = .ok b w ∧ (Op.equal t .nilIface u).run P w = .ok b w := by
  have key : ∀ d, (Op.equalIn (d + 1) t u .nilIface).run P w = .ok b w ∧ (Op.equalIn (d + 1) t .nilIface u).run P w = .ok b w := fun d => by
    rcases hu with ⟨rfl, rfl⟩ | ⟨rfl, t', v, rfl⟩ <;> simp [Op.equalIn, run_underlying ht]
  exact key 9999

theorem equal_ptr {t e : TypeId} (ht : P.underlying t = some (.pointer e)) (u : Value) (b : Bool) (hu : (b = true ∧ u = .pointer none) ∨ (b = false ∧ ∃ x, u = .pointer (some x))) :
    (Op.equal t u (.pointer none)).run P w = .ok b w ∧ (Op.equal t (.pointer none) u).run P w = .ok b w := by
  have key : ∀ d, (Op.equalIn (d + 1) t u (.pointer none)).run P w = .ok b w ∧ (Op.equalIn (d + 1) t (.pointer none) u).run P w = .ok b w := fun d => by
    rcases hu with ⟨rfl, rfl⟩ | ⟨rfl, x, rfl⟩ <;> simp [Op.equalIn, run_underlying ht]
  exact key 9999

theorem equal_slice {t e : TypeId} (ht : P.underlying t = some (.slice e)) (u : Value) (b : Bool) (hu : (b = true ∧ u = .slice none 0 0) ∨ (b = false ∧ ∃ x n c, u = .slice (some x) n c)) :
    (Op.equal t u (.slice none 0 0)).run P w = .ok b w ∧ (Op.equal t (.slice none 0 0) u).run P w = .ok b w := by
  have key : ∀ d, (Op.equalIn (d + 1) t u (.slice none 0 0)).run P w = .ok b w ∧ (Op.equalIn (d + 1) t (.slice none 0 0) u).run P w = .ok b w := fun d => by
    rcases hu with ⟨rfl, rfl⟩ | ⟨rfl, x, n, c, rfl⟩ <;> simp [Op.equalIn, run_underlying ht]
  exact key 9999

theorem equal_func {t : TypeId} {ps rs : Array TypeId} {vr : Bool} (ht : P.underlying t = some (.func ps rs vr)) (u : Value) (b : Bool) (hu : (b = true ∧ u = .nilFunc) ∨ (b = false ∧ ∃ x y z, u = .func x y z)) :
    (Op.equal t u .nilFunc).run P w = .ok b w ∧ (Op.equal t .nilFunc u).run P w = .ok b w := by
  have key : ∀ d, (Op.equalIn (d + 1) t u .nilFunc).run P w = .ok b w ∧ (Op.equalIn (d + 1) t .nilFunc u).run P w = .ok b w := fun d => by
    rcases hu with ⟨rfl, rfl⟩ | ⟨rfl, x, y, z, rfl⟩ <;> simp [Op.equalIn, run_underlying ht]
  exact key 9999

def NilIs : NilK → Bool → Value → Prop
  | .i, b, u => (b = true ∧ u = .nilIface) ∨ (b = false ∧ ∃ t v, u = .iface t v)
  | .p, b, u => (b = true ∧ u = .pointer none) ∨ (b = false ∧ ∃ x, u = .pointer (some x))
  | .s, b, u => (b = true ∧ u = .slice none 0 0) ∨ (b = false ∧ ∃ x n c, u = .slice (some x) n c)
  | .f, b, u => (b = true ∧ u = .nilFunc) ∨ (b = false ∧ ∃ x y z, u = .func x y z)

theorem RepS.nilS_of {F : Frz} {xs : List SV} {u : Value} (h : RepS F (.sl xs) u) (hx : xs ≠ []) : NilIs .s false u := by
  rcases h.sl_inv with ⟨rfl, _⟩ | ⟨b, o, c, k, vs, rfl, _⟩
  · exact absurd rfl hx
  · exact .inr ⟨rfl, _, _, _, rfl⟩

/-- What is known to be nil, or not. -/
theorem RepA.nil {ℓ : Loc} {u : Value} (h : RepA P γ w ℓ av u) {k : NilK} {b : Bool} (e : av.nil? k = some b) : NilIs k b u := by
  unfold AV.nil? at e
  split at e
  case h_12 xs =>
    split at e
    · simp at e
    · rename_i hx
      simp only [Option.some.injEq] at e; subst e
      exact h.sv_inv.nilS_of (by simpa using hx)
  case h_13 e' xs =>
    split at e
    · simp at e
    · rename_i hx
      simp only [Option.some.injEq] at e; subst e
      cases h with
      | own _ _ _ h => exact h.rep.nilS_of (by simpa using hx)
  case h_14 => simp at e
  all_goals (simp only [Option.some.injEq] at e; subst e)
  case h_1 => cases h.sv_inv; exact .inl ⟨rfl, rfl⟩
  case h_2 => cases h.sv_inv; exact .inl ⟨rfl, rfl⟩
  case h_3 => cases h.sv_inv; exact .inl ⟨rfl, rfl⟩
  case h_4 => cases h.sv_inv; exact .inl ⟨rfl, rfl⟩
  case h_5 => cases h.sv_inv; exact .inr ⟨rfl, _, _, rfl⟩
  case h_6 => cases h.sv_inv; exact .inr ⟨rfl, _, _, _, rfl⟩
  case h_7 => cases h.sv_inv; exact .inr ⟨rfl, _, rfl⟩
  case h_8 => cases h; exact .inr ⟨rfl, _, rfl⟩
  case h_9 => cases h; exact .inr ⟨rfl, _, _, _, rfl⟩
  case h_10 => cases h; exact .inr ⟨rfl, _, _, _, rfl⟩
  case h_11 => cases h; exact .inr ⟨rfl, _, _, _, rfl⟩

theorem isNilC_eval {k : NilK} {x : Operand} (h : isNilC k x = true) : ∃ v, x = .const v ∧ (match k with | .i => v = .nilIface | .p => v = .pointer none | .s => v = .slice none 0 0 | .f => v = .nilFunc) := by
  unfold isNilC at h
  split at h <;> first | exact ⟨_, rfl, rfl⟩ | simp at h

theorem op_isNil (hR : R P γ a w s) (hG : GlobOK E γ) {op : BinOp} {ng : Bool} (hop : op = (if ng then .neq else .eql)) {t t' : TypeId} {d : TypeDesc} {k : NilK} (ht : P.underlying t = some d) (hk : nilKind d = some k) {x y z : Operand} {z' : Opd}
    (ho : o.op = .binOp op t x y t') (hz : opd z = some z') (hxy : (z = x ∧ isNilC k y = true) ∨ (z = y ∧ isNilC k x = true)) (h : stepV E cf q o.dst s (.isNil k ng z') = some (av, s1)) : Done P γ a w o av s1 := by
  simp only [stepV] at h
  split at h
  · rename_i b hb
    simp only [Option.some.injEq, Prod.mk.injEq] at h
    obtain ⟨rfl, rfl⟩ := h
    have hn := (ev_rep hR hG hz).nil hb
    refine Done.sv hR (v := .bool (b != ng)) ?_ (.bool _)
    simp only [execOp, ho]
    generalize hu : a.eval z = u at hn
    subst hop
    have hgoal : ∀ (g : (eqGuard (if ng then .neq else .eql) t x y (a.eval x) (a.eval y)).run P w = .ok () w) (e : (Op.equal t (a.eval x) (a.eval y)).run P w = .ok b w)
        (hb1 : binOp (if ng then .neq else .eql) t (a.eval x) (a.eval y) = (do pure (.bool ((← Op.equal t (a.eval x) (a.eval y)) != ng)))),
        (do let r ← (do eqGuard (if ng then .neq else .eql) t x y (a.eval x) (a.eval y); binOp (if ng then .neq else .eql) t (a.eval x) (a.eval y) : Sem Value); pure (Next.value r) : Sem Next).run P w = .ok (.value (.bool (b != ng))) w := by
      intro g e hb1
      rw [hb1]
      simp [g, e]
    cases k <;> cases d <;> simp [nilKind] at hk
    case i.interface ms =>
      rcases hxy with ⟨rfl, hc⟩ | ⟨rfl, hc⟩
      · obtain ⟨v, hxe, hve⟩ := isNilC_eval hc
        simp only at hve
        subst hve
        refine hgoal ?_ ?_ ?_
        · rw [hu, hxe]; rcases hn with ⟨_, rfl⟩ | ⟨_, _, _, rfl⟩ <;> cases ng <;> simp [eqGuard, Act.eval]
        · rw [hu, hxe]; exact (equal_iface ht u b hn).1
        · rw [hu, hxe]; rcases hn with ⟨_, rfl⟩ | ⟨_, _, _, rfl⟩ <;> cases ng <;> simp [binOp, Act.eval]
      · obtain ⟨v, hxe, hve⟩ := isNilC_eval hc
        simp only at hve
        subst hve
        refine hgoal ?_ ?_ ?_
        · rw [hu, hxe]; rcases hn with ⟨_, rfl⟩ | ⟨_, _, _, rfl⟩ <;> cases ng <;> simp [eqGuard, Act.eval]
        · rw [hu, hxe]; exact (equal_iface ht u b hn).2
        · rw [hu, hxe]; rcases hn with ⟨_, rfl⟩ | ⟨_, _, _, rfl⟩ <;> cases ng <;> simp [binOp, Act.eval]
    case p.pointer e =>
      rcases hxy with ⟨rfl, hc⟩ | ⟨rfl, hc⟩
      · obtain ⟨v, hxe, hve⟩ := isNilC_eval hc
        simp only at hve
        subst hve
        refine hgoal ?_ ?_ ?_
        · rw [hu, hxe]; rcases hn with ⟨_, rfl⟩ | ⟨_, _, rfl⟩ <;> cases ng <;> simp [eqGuard, Act.eval]
        · rw [hu, hxe]; exact (equal_ptr ht u b hn).1
        · rw [hu, hxe]; rcases hn with ⟨_, rfl⟩ | ⟨_, _, rfl⟩ <;> cases ng <;> simp [binOp, Act.eval]
      · obtain ⟨v, hxe, hve⟩ := isNilC_eval hc
        simp only at hve
        subst hve
        refine hgoal ?_ ?_ ?_
        · rw [hu, hxe]; rcases hn with ⟨_, rfl⟩ | ⟨_, _, rfl⟩ <;> cases ng <;> simp [eqGuard, Act.eval]
        · rw [hu, hxe]; exact (equal_ptr ht u b hn).2
        · rw [hu, hxe]; rcases hn with ⟨_, rfl⟩ | ⟨_, _, rfl⟩ <;> cases ng <;> simp [binOp, Act.eval]
    case s.slice e =>
      rcases hxy with ⟨rfl, hc⟩ | ⟨rfl, hc⟩
      · obtain ⟨v, hxe, hve⟩ := isNilC_eval hc
        simp only at hve
        subst hve
        refine hgoal ?_ ?_ ?_
        · rw [hu, hxe]; rcases hn with ⟨_, rfl⟩ | ⟨_, _, _, _, rfl⟩ <;> cases ng <;> simp [eqGuard, Act.eval]
        · rw [hu, hxe]; exact (equal_slice ht u b hn).1
        · rw [hu, hxe]; rcases hn with ⟨_, rfl⟩ | ⟨_, _, _, _, rfl⟩ <;> cases ng <;> simp [binOp, Act.eval]
      · obtain ⟨v, hxe, hve⟩ := isNilC_eval hc
        simp only at hve
        subst hve
        refine hgoal ?_ ?_ ?_
        · rw [hu, hxe]; rcases hn with ⟨_, rfl⟩ | ⟨_, _, _, _, rfl⟩ <;> cases ng <;> simp [eqGuard, Act.eval]
        · rw [hu, hxe]; exact (equal_slice ht u b hn).2
        · rw [hu, hxe]; rcases hn with ⟨_, rfl⟩ | ⟨_, _, _, _, rfl⟩ <;> cases ng <;> simp [binOp, Act.eval]
    case f.func ps rs vr =>
      rcases hxy with ⟨rfl, hc⟩ | ⟨rfl, hc⟩
      · obtain ⟨v, hxe, hve⟩ := isNilC_eval hc
        simp only at hve
        subst hve
        refine hgoal ?_ ?_ ?_
        · rw [hu, hxe]; rcases hn with ⟨_, rfl⟩ | ⟨_, _, _, _, rfl⟩ <;> cases ng <;> simp [eqGuard, Act.eval]
        · rw [hu, hxe]; exact (equal_func ht u b hn).1
        · rw [hu, hxe]; rcases hn with ⟨_, rfl⟩ | ⟨_, _, _, _, rfl⟩ <;> cases ng <;> simp [binOp, Act.eval]
      · obtain ⟨v, hxe, hve⟩ := isNilC_eval hc
        simp only at hve
        subst hve
        refine hgoal ?_ ?_ ?_
        · rw [hu, hxe]; rcases hn with ⟨_, rfl⟩ | ⟨_, _, _, _, rfl⟩ <;> cases ng <;> simp [eqGuard, Act.eval]
        · rw [hu, hxe]; exact (equal_func ht u b hn).2
        · rw [hu, hxe]; rcases hn with ⟨_, rfl⟩ | ⟨_, _, _, _, rfl⟩ <;> cases ng <;> simp [binOp, Act.eval]
  · simp at h

theorem below_spec {n : Nat} {i : Int} {j : Nat} (h : below n i = some j) : 0 ≤ i ∧ i < n ∧ j = i.toNat ∧ j < n := by
  unfold below at h
  split at h <;> simp only [Option.some.injEq, reduceCtorEq] at h
  rename_i hc
  exact ⟨hc.1, hc.2, h.symm, by omega⟩

theorem upTo_spec {n : Nat} {i : Int} {j : Nat} (h : upTo n i = some j) : 0 ≤ i ∧ i ≤ n ∧ j = i.toNat ∧ j ≤ n := by
  unfold upTo at h
  split at h <;> simp only [Option.some.injEq, reduceCtorEq] at h
  rename_i hc
  exact ⟨hc.1, hc.2, h.symm, by omega⟩

theorem op_idxS (hR : R P γ a w s) (hG : GlobOK E γ) {t : TypeId} {x i : Operand} {x' i' : Opd} (ho : o.op = .index t x i) (ht : P.underlying t = some .string) (hx : opd x = some x') (hi : opd i = some i')
    (h : stepV E cf q o.dst s (.idxS x' i') = some (av, s1)) : Done P γ a w o av s1 := by
  simp only [stepV] at h
  split at h
  · rename_i l k n hl hn
    split at h
    · rename_i j hj
      split at h
      · rename_i b hb
        simp only [Option.some.injEq, Prod.mk.injEq] at h
        obtain ⟨rfl, rfl⟩ := h
        have h1 := (ev_rep hR hG hx).str hl
        have h2 := (ev_rep hR hG hi).int hn
        obtain ⟨c1, c2, rfl, c4⟩ := below_spec hj
        refine Done.sv hR ?_ (.int _ _)
        simp only [execOp, ho, h1, h2]
        have hsz : (⟨l.toArray⟩ : ByteArray).size = l.length := by simp [ByteArray.size]
        have hget : (⟨l.toArray⟩ : ByteArray)[n.toNat]? = some b := by
          rw [ByteArray.getElem?_lt' _ _ (by rw [hsz]; exact c4)]
          have : l[n.toNat]? = some b := hb
          rw [List.getElem?_eq_getElem c4] at this
          simp only [Option.some.injEq] at this ⊢
          rw [← this]
          rfl
        simp [Instr.index, asIntOf, run_underlying ht, c1, hget]
      · simp at h
    · simp at h
  · simp at h

theorem run_sliceBound {v : Value} {k : IntKind} {n : Int} (hv : v = .int k n) (y : Nat) (c : BoundsCode) (h1 : 0 ≤ n) (h2 : n ≤ y) : (Instr.sliceBound v y c).run P w = .ok n.toNat w := by
  subst hv
  simp [Instr.sliceBound, asIntOf, h1, h2]

/-- The bounds of a slice. -/
theorem run_bounds (hR : R P γ a w s) (hG : GlobOK E γ) {lo hi : Option Operand} {lo' hi' : Option Opd} (hlo : opdO lo = some lo') (hhi : opdO hi = some hi')
    {len cap : Nat} (hlc : len ≤ cap) {isS : Bool} {H : Int} {L : Int} {h' l' : Nat} (e1 : optInt E s hi' len = some H) (e2 : upTo len H = some h') (e3 : optInt E s lo' 0 = some L) (e4 : upTo h' L = some l') :
    (Instr.sliceBounds isS len cap (lo.map a.eval) (hi.map a.eval) none).run P w = .ok (l', h', cap) w := by
  obtain ⟨p1, p2, rfl, p4⟩ := upTo_spec e2
  obtain ⟨q1, q2, rfl, q4⟩ := upTo_spec e4
  cases hi with
  | none =>
    simp only [opdO, Option.some.injEq] at hhi; subst hhi
    simp only [optInt, Option.some.injEq] at e1; subst e1
    cases lo with
    | none =>
      simp only [opdO, Option.some.injEq] at hlo; subst hlo
      simp only [optInt, Option.some.injEq] at e3; subst e3
      simp [Instr.sliceBounds]
    | some v =>
      simp only [opdO, Option.map_eq_some_iff] at hlo
      obtain ⟨v', hv, rfl⟩ := hlo
      simp only [optInt, Option.map_eq_some_iff] at e3
      obtain ⟨⟨k, n⟩, hn, rfl⟩ := e3
      have := (ev_rep hR hG hv).int hn
      simp [Instr.sliceBounds, run_sliceBound (P := P) (w := w) this len _ q1 (by simpa using q2)]
  | some u =>
    simp only [opdO, Option.map_eq_some_iff] at hhi
    obtain ⟨u', hu, rfl⟩ := hhi
    simp only [optInt, Option.map_eq_some_iff] at e1
    obtain ⟨⟨k', n'⟩, hn', rfl⟩ := e1
    have hu' := (ev_rep hR hG hu).int hn'
    cases lo with
    | none =>
      simp only [opdO, Option.some.injEq] at hlo; subst hlo
      simp only [optInt, Option.some.injEq] at e3; subst e3
      simp [Instr.sliceBounds, run_sliceBound (P := P) (w := w) hu' cap _ p1 (by omega)]
    | some v =>
      simp only [opdO, Option.map_eq_some_iff] at hlo
      obtain ⟨v', hv, rfl⟩ := hlo
      simp only [optInt, Option.map_eq_some_iff] at e3
      obtain ⟨⟨k, n⟩, hn, rfl⟩ := e3
      have := (ev_rep hR hG hv).int hn
      simp [Instr.sliceBounds, run_sliceBound (P := P) (w := w) hu' cap _ p1 (by omega), run_sliceBound (P := P) (w := w) this n'.toNat _ q1 q2]

theorem op_subS (hR : R P γ a w s) (hG : GlobOK E γ) {t : TypeId} {x : Operand} {lo hi : Option Operand} {x' : Opd} {lo' hi' : Option Opd} (ho : o.op = .slice t x lo hi none) (ht : P.underlying t = some .string) (hx : opd x = some x')
    (hlo : opdO lo = some lo') (hhi : opdO hi = some hi')
    (h : stepV E cf q o.dst s (.subS x' lo' hi') = some (av, s1)) : Done P γ a w o av s1 := by
  simp only [stepV] at h
  split at h <;> try (simp at h; done)
  rename_i l hl
  split at h <;> try (simp at h; done)
  rename_i H e1
  split at h <;> try (simp at h; done)
  rename_i h' e2
  split at h <;> try (simp at h; done)
  rename_i L e3
  split at h <;> try (simp at h; done)
  rename_i l' e4
  simp only [Option.some.injEq, Prod.mk.injEq] at h
  obtain ⟨rfl, rfl⟩ := h
  have h1 := (ev_rep hR hG hx).str hl
  have hsz : (⟨l.toArray⟩ : ByteArray).size = l.length := by simp [ByteArray.size]
  have hb := run_bounds (isS := false) hR hG hlo hhi (Nat.le_refl l.length) e1 e2 e3 e4
  refine Done.sv hR (v := .string ⟨((l.take h').drop l').toArray⟩) ?_ (.str _)
  have hex : (⟨l.toArray⟩ : ByteArray).extract l' h' = ⟨((l.take h').drop l').toArray⟩ := by
    apply ByteArray.ext
    simp [List.drop_take, List.extract]
  simp only [execOp, ho, h1]
  simp [Instr.sliceAt, Instr.slice, run_underlying ht, hsz, hb, hex]

theorem args_one {c : Call} {x : Operand} (h : c.args.toList = [x]) : c.args = #[x] := by
  have : c.args = c.args.toList.toArray := by simp
  rw [this, h]

theorem size_mk (l : List UInt8) : (⟨l.toArray⟩ : ByteArray).size = l.length := by
  show l.toArray.size = _
  simp

theorem op_lenS (hR : R P γ a w s) (hG : GlobOK E γ) {c : Call} {x : Operand} {t : TypeId} {x' : Opd} (ho : o.op = .call c) (hc : c.callee = .builtin .len) (hca : c.args.toList = [x]) (hct : c.argTypes[0]? = some t)
    (ht : P.underlying t = some .string) (hx : opd x = some x') (h : stepV E cf q o.dst s (.lenS x') = some (av, s1)) : Done P γ a w o av s1 := by
  simp only [stepV] at h
  split at h
  · rename_i l hl
    simp only [Option.some.injEq, Prod.mk.injEq] at h
    obtain ⟨rfl, rfl⟩ := h
    have h1 := (ev_rep hR hG hx).str hl
    refine Done.sv hR ?_ (.int _ _)
    simp only [execOp, ho, resolve, hc, args_one hca, invoke, builtin, h1]
    simp [Builtin.len_, hct, h1, run_underlying ht, goInt, size_mk]
  · simp at h

theorem args_two {c : Call} {x y : Operand} (h : c.args.toList = [x, y]) : c.args = #[x, y] := by
  have : c.args = c.args.toList.toArray := by simp
  rw [this, h]

theorem op_mm (hR : R P γ a w s) (hG : GlobOK E γ) {c : Call} {x y : Operand} {mx : Bool} {x' y' : Opd} (ho : o.op = .call c) (hc : c.callee = .builtin (if mx then .max else .min)) (hca : c.args.toList = [x, y])
    (hx : opd x = some x') (hy : opd y = some y') (h : stepV E cf q o.dst s (.mm mx x' y') = some (av, s1)) : Done P γ a w o av s1 := by
  simp only [stepV] at h
  split at h
  · rename_i k m k2 n hm hn
    simp only [Option.some.injEq, Prod.mk.injEq] at h
    obtain ⟨rfl, rfl⟩ := h
    have h1 := (ev_rep hR hG hx).int hm
    have h2 := (ev_rep hR hG hy).int hn
    refine Done.sv hR ?_ (.int _ _)
    cases mx with
    | true =>
      simp only [if_true] at hc
      simp only [execOp, ho, resolve, hc, args_two hca, invoke, builtin]
      simp [Builtin.max_, Builtin.max2, h1, h2]
    | false =>
      simp only [Bool.false_eq_true, if_false] at hc
      simp only [execOp, ho, resolve, hc, args_two hca, invoke, builtin]
      simp [Builtin.min_, Builtin.min2, h1, h2]
  · simp at h

theorem op_lenL (hR : R P γ a w s) (hG : GlobOK E γ) {c : Call} {x : Operand} {t e : TypeId} {x' : Opd} (ho : o.op = .call c) (hc : c.callee = .builtin .len) (hca : c.args.toList = [x]) (hct : c.argTypes[0]? = some t)
    (ht : P.underlying t = some (.slice e)) (hx : opd x = some x') (h : stepV E cf q o.dst s (.lenL x') = some (av, s1)) : Done P γ a w o av s1 := by
  have hv := ev_rep hR hG hx
  have hrun : ∀ (n : Nat), (∃ p k, a.eval x = .slice p n k) → (execOp a.eval o).run P w = .ok (.value (.int .i64 n)) w := by
    rintro n ⟨p, k, e⟩
    simp only [execOp, ho, resolve, hc, args_one hca, invoke, builtin, e]
    simp [Builtin.len_, hct, e, run_underlying ht, goInt]
  simp only [stepV] at h
  split at h
  · rename_i i n k he
    simp only [Option.some.injEq, Prod.mk.injEq] at h
    obtain ⟨rfl, rfl⟩ := h
    rw [he] at hv
    generalize hX : a.eval x = X at hv
    cases hv
    exact Done.sv hR (hrun n ⟨_, _, hX⟩) (.int _ _)
  · rename_i i n k e' he
    simp only [Option.some.injEq, Prod.mk.injEq] at h
    obtain ⟨rfl, rfl⟩ := h
    rw [he] at hv
    generalize hX : a.eval x = X at hv
    cases hv
    exact Done.sv hR (hrun n ⟨_, _, hX⟩) (.int _ _)
  · split at h
    · rename_i xs hxs
      simp only [Option.some.injEq, Prod.mk.injEq] at h
      obtain ⟨rfl, rfl⟩ := h
      refine Done.sv hR (hrun xs.length ?_) (.int _ _)
      rcases (hv.elems hxs).sl_inv with ⟨rfl, p, k, e⟩ | ⟨b, o', k, _, _, e, _⟩
      · exact ⟨p, k, e⟩
      · exact ⟨_, k, e⟩
    · simp at h

theorem add_none (b o n : Nat) : (⟨b, o, none⟩ : Addr).add n = ⟨b, o + n, none⟩ := by
  unfold Addr.add
  split
  · rename_i h; subst h; rfl
  · rfl

theorem RepS.sub {F : Frz} {b o c k : Nat} {xs : List SV} {vs : Nat → Value} (hk : 0 < k) (hc : xs.length ≤ c) (hl : ∀ x ∈ xs, x.cells.length = k)
    (hF : ∀ j, j < xs.length * k → F b (o + j) (vs j)) (ho : ∀ (j : Nat) (x : SV), (flat xs)[j]? = some x → x.one = true) (hr : ∀ (j : Nat) (x : SV), (flat xs)[j]? = some x → RepS F x (vs j))
    {h l : Nat} (h1 : h ≤ xs.length) (h2 : l ≤ h) : RepS F (.sl ((xs.take h).drop l)) (.slice (some ⟨b, o + l * k, none⟩) (h - l) (c - l)) := by
  have hlen : ((xs.take h).drop l).length = h - l := by simp; omega
  by_cases he : (xs.take h).drop l = []
  · have : h - l = 0 := by rw [← hlen, he]; rfl
    rw [he, this]
    exact .slE _ _
  · rw [← hlen]
    have hl1 : ∀ x ∈ xs.take h, x.cells.length = k := fun x hx => hl x (List.mem_of_mem_take hx)
    have hflat : ∀ j, (flat ((xs.take h).drop l))[j]? = if j < (h - l) * k then (flat xs)[l * k + j]? else none := by
      intro j
      rw [flat_drop l hl1, flat_take h hl, List.getElem?_drop, List.getElem?_take]
      have e : l * k + j < h * k ↔ j < (h - l) * k := by rw [Nat.sub_mul]; have := Nat.mul_le_mul_right k h2; omega
      by_cases hj : j < (h - l) * k
      · rw [if_pos (e.2 hj), if_pos hj]
      · rw [if_neg (fun hh => hj (e.1 hh)), if_neg hj]
    refine .sl _ b (o + l * k) _ k (fun j => vs (l * k + j)) hk he (by rw [hlen]; omega) (fun x hx => hl1 x (List.mem_of_mem_drop hx)) (fun j hj => ?_) (fun j x hx => ?_) (fun j x hx => ?_)
    · rw [hlen] at hj
      have := hF (l * k + j) (by have := Nat.mul_le_mul_right k h1; rw [Nat.sub_mul] at hj; omega)
      rw [Nat.add_assoc]; exact this
    · rw [hflat] at hx
      split at hx
      · exact ho _ x hx
      · simp at hx
    · rw [hflat] at hx
      split at hx
      · exact hr _ x hx
      · simp at hx

theorem op_subL (hR : R P γ a w s) (hG : GlobOK E γ) {t e : TypeId} {i : TypeInfo} {x : Operand} {lo hi : Option Operand} {x' : Opd} {lo' hi' : Option Opd} (ho : o.op = .slice t x lo hi none) (ht : P.underlying t = some (.slice e)) (hie : P.info? e = some i) (hx : opd x = some x')
    (hlo : opdO lo = some lo') (hhi : opdO hi = some hi') (h : stepV E cf q o.dst s (.subL i.size x' lo' hi') = some (av, s1)) : Done P γ a w o av s1 := by
  simp only [stepV] at h
  split at h <;> try (simp at h; done)
  rename_i l hl
  split at h <;> try (simp at h; done)
  rename_i H e1
  split at h <;> try (simp at h; done)
  rename_i h' e2
  split at h <;> try (simp at h; done)
  rename_i L e3
  split at h <;> try (simp at h; done)
  rename_i l' e4
  split at h <;> try (simp at h; done)
  rename_i hsz
  simp only [Option.some.injEq, Prod.mk.injEq] at h
  obtain ⟨rfl, rfl⟩ := h
  obtain ⟨p1, p2, p3, p4⟩ := upTo_spec e2
  obtain ⟨q1, q2, q3, q4⟩ := upTo_spec e4
  rcases ((ev_rep hR hG hx).elems hl).sl_inv with ⟨rfl, pa, c, hu⟩ | ⟨b, off, c, k, vs, hu, hk, hne, hc, hlen, hF, hone, hr⟩
  · have hb := run_bounds (isS := true) (cap := c) hR hG hlo hhi (by simp) e1 e2 e3 e4
    have hh0 : h' = 0 := by simpa using p4
    have hl0 : l' = 0 := by omega
    subst hh0; subst hl0
    refine Done.sv hR (v := .slice (if c = 0 then pa else pa.map (·.add (0 * i.size))) 0 c) ?_ (by simpa using RepS.slE _ _)
    simp only [execOp, ho, hu]
    simp only [List.length_nil] at hb
    simp [Instr.sliceAt, Instr.slice, run_underlying ht, hb, sizeOf, typeInfo, hie]
  · have hb := run_bounds (isS := true) (cap := c) hR hG hlo hhi hc e1 e2 e3 e4
    have hki : k = i.size := by
      cases l with
      | nil => exact absurd rfl hne
      | cons y ys =>
        have h2 := hsz.2
        simp only [uni, List.all_cons, Bool.and_eq_true, beq_iff_eq] at h2
        rw [← h2.1]; exact (hlen y (by simp)).symm
    subst hki
    by_cases hcl : c = l'
    · have hh : h' = l' := by omega
      subst hh
      subst hcl
      refine Done.sv hR (v := .slice (some ⟨b, off, none⟩) 0 0) ?_ ?_
      · simp only [execOp, ho, hu]
        simp [Instr.sliceAt, Instr.slice, run_underlying ht, hb, sizeOf, typeInfo, hie]
      · have : (l.take c).drop c = [] := by simp
        rw [this]; exact .slE _ _
    · refine Done.sv hR (v := .slice (some ⟨b, off + l' * i.size, none⟩) (h' - l') (c - l')) ?_ (RepS.sub hk hc hlen hF hone hr p4 q4)
      simp only [execOp, ho, hu]
      simp [Instr.sliceAt, Instr.slice, run_underlying ht, hb, sizeOf, typeInfo, hie, hcl, add_none]

end Go.Ev

set_option linter.unusedSimpArgs false
set_option linter.unusedVariables false
namespace Go.Ev
variable {P : Program} {E : Env} {γ : Gh} {a : Act} {w : World} {s : St} {o : Oper} {cf : CallF} {q : Bool} {s1 : St} {av : AV}

theorem addrPlus_rep {ℓ : Loc} {u : Value} {av' : AV} (h : RepA P γ w ℓ av u) {k : Nat} (e : addrPlus av k = some av') :
    ∃ b off, u = .pointer (some ⟨b, off, none⟩) ∧ RepA P γ w .ret av' (.pointer (some ⟨b, off + k, none⟩)) ∧ av'.isOwn = false := by
  unfold addrPlus at e
  split at e <;> simp only [Option.some.injEq, reduceCtorEq] at e <;> subst e
  · rename_i cs
    obtain ⟨b, off, vs, rfl, hF, ho, hr⟩ := h.sv_inv.ref_inv
    refine ⟨b, off, rfl, .sv _ _ _ (.ref _ b (off + k) (fun j => vs (k + j)) (fun j hj => ?_) (fun j x hx => ?_) (fun j x hx => ?_)), rfl⟩
    · have := hF (k + j) (by simp at hj; omega)
      rw [Nat.add_assoc]; exact this
    · rw [List.getElem?_drop] at hx; exact ho _ x hx
    · rw [List.getElem?_drop] at hx; exact hr _ x hx
  · cases h with
    | ptr _ _ b hb => exact ⟨b, _, rfl, .ptr _ _ _ _ hb, rfl⟩

theorem op_fAddr (hR : R P γ a w s) (hG : GlobOK E γ) {t : TypeId} {fs : Array Field} {f : Nat} {g : Field} {i : TypeInfo} {x : Operand} {x' : Opd} (ho : o.op = .fieldAddr t x f) (ht : P.underlying t = some (.struct fs)) (hf : fs[f]? = some g) (hi : P.info? g.type = some i) (hz : i.size ≠ 0)
    (hx : opd x = some x') (h : stepV E cf q o.dst s (.fAddr g.offset x') = some (av, s1)) : Done P γ a w o av s1 := by
  simp only [stepV] at h
  split at h
  · rename_i av' he
    simp only [Option.some.injEq, Prod.mk.injEq] at h
    obtain ⟨rfl, rfl⟩ := h
    obtain ⟨b, off, hu, hr, hn⟩ := addrPlus_rep (ev_rep hR hG hx) he
    refine Done.same hR ?_ hr hn
    simp only [execOp, ho, hu]
    simp [Instr.fieldAt, run_underlying ht, hf, Instr.sureAddr, fieldPlace, sizeOf, typeInfo, hi, hz, add_none]
  · simp at h

theorem op_iAddrA (hR : R P γ a w s) (hG : GlobOK E γ) {t e : TypeId} {n : Nat} {i : TypeInfo} {x y : Operand} {x' y' : Opd} (ho : o.op = .indexAddr t x y) (ht : P.underlying t = some (.array n e)) (hi : P.info? e = some i)
    (hx : opd x = some x') (hy : opd y = some y') (h : stepV E cf q o.dst s (.iAddrA n i.size x' y') = some (av, s1)) : Done P γ a w o av s1 := by
  simp only [stepV] at h
  split at h <;> try (simp at h; done)
  rename_i k m hm
  split at h <;> try (simp at h; done)
  rename_i j hj
  split at h <;> try (simp at h; done)
  rename_i av' he
  simp only [Option.some.injEq, Prod.mk.injEq] at h
  obtain ⟨rfl, rfl⟩ := h
  obtain ⟨b, off, hu, hr, hn⟩ := addrPlus_rep (ev_rep hR hG hx) he
  have h2 := (ev_rep hR hG hy).int hm
  obtain ⟨c1, c2, rfl, c4⟩ := below_spec hj
  refine Done.same hR ?_ hr hn
  simp only [execOp, ho, hu, h2]
  simp [Instr.indexAt, asIntOf, run_underlying ht, Instr.sureAddr, sizeOf, typeInfo, hi, add_none, c1, c2]

theorem op_iAddrS (hR : R P γ a w s) (hG : GlobOK E γ) {t e : TypeId} {i : TypeInfo} {x y : Operand} {x' y' : Opd} (ho : o.op = .indexAddr t x y) (ht : P.underlying t = some (.slice e)) (hi : P.info? e = some i)
    (hx : opd x = some x') (hy : opd y = some y') (h : stepV E cf q o.dst s (.iAddrS i.size x' y') = some (av, s1)) : Done P γ a w o av s1 := by
  have hv := ev_rep hR hG hx
  have hrun : ∀ (b off : Nat) (n c : Nat) (k : IntKind) (m : Int), a.eval x = .slice (some ⟨b, off, none⟩) n c → a.eval y = .int k m → 0 ≤ m → m < n →
      (execOp a.eval o).run P w = .ok (.value (.pointer (some ⟨b, off + m.toNat * i.size, none⟩))) w := by
    intro b off n c k m e1 e2 h1 h2
    simp only [execOp, ho, e1, e2]
    simp [Instr.indexAt, asIntOf, run_underlying ht, sizeOf, typeInfo, hi, add_none, h1, h2]
  simp only [stepV] at h
  split at h <;> try (simp at h; done)
  rename_i k m hm
  have h2 := (ev_rep hR hG hy).int hm
  split at h
  · rename_i bi n e' he
    split at h <;> try (simp at h; done)
    rename_i hee
    split at h <;> try (simp at h; done)
    rename_i j hj
    simp only [Option.some.injEq, Prod.mk.injEq] at h
    obtain ⟨rfl, rfl⟩ := h
    obtain ⟨c1, c2, rfl, c4⟩ := below_spec hj
    rw [he] at hv
    generalize hX : a.eval x = X at hv
    cases hv with
    | mrow _ _ _ b c hb _ =>
      refine Done.same hR (hrun b 0 n c k m hX h2 c1 c2) (ℓ := .ret) ?_ rfl
      rw [Nat.zero_add]
      exact .ptr _ _ _ _ hb
  · rename_i bi n e' ee he
    split at h <;> try (simp at h; done)
    rename_i hee
    split at h <;> try (simp at h; done)
    rename_i j hj
    simp only [Option.some.injEq, Prod.mk.injEq] at h
    obtain ⟨rfl, rfl⟩ := h
    obtain ⟨c1, c2, rfl, c4⟩ := below_spec hj
    rw [he] at hv
    generalize hX : a.eval x = X at hv
    cases hv with
    | grw _ _ _ _ b c hb _ _ _ _ =>
      refine Done.same hR (hrun b 0 n c k m hX h2 c1 c2) (ℓ := .ret) ?_ rfl
      rw [Nat.zero_add]
      exact .ptr _ _ _ _ hb
  · split at h <;> try (simp at h; done)
    rename_i xs hxs
    split at h <;> try (simp at h; done)
    rename_i j hj
    split at h <;> try (simp at h; done)
    rename_i z hz
    split at h <;> try (simp at h; done)
    rename_i hlen
    simp only [Option.some.injEq, Prod.mk.injEq] at h
    obtain ⟨rfl, rfl⟩ := h
    obtain ⟨c1, c2, rfl, c4⟩ := below_spec hj
    rcases (hv.elems hxs).sl_inv with ⟨rfl, _⟩ | ⟨b, off, c, k', vs, hu, hk, hne, hc, hl, hF, hone, hr⟩
    · simp at c4
    · have hk' : k' = i.size := by rw [← hl z (List.mem_of_getElem? hz)]; exact hlen
      subst hk'
      refine Done.sv hR (hrun b off _ c k m hu h2 c1 c2) (.ref _ b _ (fun j => vs (m.toNat * i.size + j)) (fun j hj => ?_) (fun j x hx => ?_) (fun j x hx => ?_))
      · rw [hlen] at hj
        have := hF (m.toNat * i.size + j) (by
          have h3 : (m.toNat + 1) * i.size ≤ xs.length * i.size := Nat.mul_le_mul_right _ c4
          rw [Nat.add_mul] at h3; omega)
        rw [Nat.add_assoc]; exact this
      · have hjl : j < i.size := by rw [← hlen]; exact (List.getElem?_eq_some_iff.1 hx).1
        exact hone _ x ((flat_get hl hz hjl).trans hx)
      · have hjl : j < i.size := by rw [← hlen]; exact (List.getElem?_eq_some_iff.1 hx).1
        exact hr _ x ((flat_get hl hz hjl).trans hx)

theorem run_isAgg {t : TypeId} {n : Option Nat} (h : aggN P t = some n) : (isAgg t).run P w = .ok n.isSome w ∧ ∃ i, P.info? t = some i ∧ (match n with | some k => i.size = k | none => i.size = 1) := by
  unfold aggN at h
  split at h
  · rename_i fs i h1 h2
    simp only [Option.some.injEq] at h; subst h
    exact ⟨by simp [isAgg, run_underlying h1], i, h2, rfl⟩
  · rename_i n' e i h1 h2
    simp only [Option.some.injEq] at h; subst h
    exact ⟨by simp [isAgg, run_underlying h1], i, h2, rfl⟩
  · rename_i d i n1 n2 h1 h2
    split at h <;> simp only [Option.some.injEq, reduceCtorEq] at h
    rename_i hs
    subst h
    refine ⟨?_, i, h2, hs⟩
    simp only [isAgg, Sem.run_bind, run_underlying h1, Result.andThen_ok]
    cases d <;> first | rfl | (exfalso; exact n1 _ _ h1 h2) | (exfalso; exact n2 _ _ _ h1 h2) | skip
  · simp at h

/-- The cells of a list of values, of which each stands for one. -/
theorem run_part {t : TypeId} {n : Option Nat} (h : aggN P t = some n) {F : Frz} {cs : List SV} {vs : Array Value} (hs : vs.size = cs.length) (ho : ∀ (j : Nat) (x : SV), cs[j]? = some x → x.one = true)
    (hr : ∀ (j : Nat) (x : SV), cs[j]? = some x → RepS F x (vs.getD j undef)) {off : Nat} {v : SV} (hv : takeN n (cs.drop off) = some v) : ∃ u, (part t vs off).run P w = .ok u w ∧ RepS F v u := by
  obtain ⟨h1, i, hi, h2⟩ := run_isAgg (P := P) (w := w) h
  cases n with
  | none =>
    simp only [takeN] at hv
    split at hv <;> simp only [Option.some.injEq, reduceCtorEq] at hv
    rename_i c rest hc
    subst hv
    have h0 : cs[off]? = some c := by
      have : (cs.drop off)[0]? = some c := by rw [hc]; rfl
      rw [List.getElem?_drop] at this; simpa using this
    have hlt : off < vs.size := by rw [hs]; exact (List.getElem?_eq_some_iff.1 h0).1
    have hh := hr off c h0
    simp only [Array.getD_eq_getD_getElem?, Array.getElem?_eq_getElem hlt, Option.getD_some] at hh
    refine ⟨vs[off], ?_, hh⟩
    simp [part, h1, Array.getElem?_eq_getElem hlt]
  | some k =>
    simp only [takeN] at hv
    split at hv <;> simp only [Option.some.injEq, reduceCtorEq] at hv
    rename_i hk
    subst hv
    simp only [List.length_drop] at hk
    have hik : i.size = k := h2
    have hget : ∀ j, j < k → ((cs.drop off).take k)[j]? = cs[off + j]? := fun j hj => by rw [List.getElem?_take, if_pos hj, List.getElem?_drop]
    refine ⟨.agg (vs.extract off (off + k)), ?_, .agg _ _ ?_ (fun j x hx => ?_) (fun j x hx => ?_)⟩
    · simp [part, h1, sizeOf, typeInfo, hi, hik]
    · simp [hs]; omega
    · rw [List.getElem?_map] at hx
      obtain ⟨y, hy, rfl⟩ := Option.map_eq_some_iff.1 hx
      have hjk : j < k := by have := (List.getElem?_eq_some_iff.1 hy).1; simp at this; omega
      rw [hget j hjk] at hy
      exact SV.can0_one (ho _ _ hy)
    · rw [List.getElem?_map] at hx
      obtain ⟨y, hy, rfl⟩ := Option.map_eq_some_iff.1 hx
      have hjk : j < k := by have := (List.getElem?_eq_some_iff.1 hy).1; simp at this; omega
      rw [hget j hjk] at hy
      have hlt : off + j < vs.size := by rw [hs]; exact (List.getElem?_eq_some_iff.1 hy).1
      have hh := (hr _ _ hy).can0
      simp only [Array.getD_eq_getD_getElem?, Array.getElem?_eq_getElem hlt, Option.getD_some] at hh
      have he : (vs.extract off (off + k)).getD j undef = vs[off + j] := by
        simp only [Array.getD_eq_getD_getElem?, Array.getElem?_extract]
        rw [if_pos (by omega), Array.getElem?_eq_getElem hlt]
        rfl
      rw [he]; exact hh

theorem op_fld (hR : R P γ a w s) (hG : GlobOK E γ) {t : TypeId} {fs : Array Field} {f : Nat} {g : Field} {n : Option Nat} {x : Operand} {x' : Opd} (ho : o.op = .field t x f) (ht : P.underlying t = some (.struct fs)) (hf : fs[f]? = some g) (hn : aggN P g.type = some n)
    (hx : opd x = some x') (h : stepV E cf q o.dst s (.fld g.offset n x') = some (av, s1)) : Done P γ a w o av s1 := by
  have hv := ev_rep hR hG hx
  simp only [stepV] at h
  split at h <;> try (simp at h; done)
  rename_i cs hcs
  split at h <;> try (simp at h; done)
  rename_i v hvv
  simp only [Option.some.injEq, Prod.mk.injEq] at h
  obtain ⟨rfl, rfl⟩ := h
  rw [hcs] at hv
  obtain ⟨vs, hu, h1, h2, h3⟩ := hv.sv_inv.agg_inv
  obtain ⟨u, k1, k2⟩ := run_part (P := P) (w := w) hn h1 h2 h3 hvv
  refine Done.sv hR ?_ k2
  simp only [execOp, ho, hu]
  simp [Instr.field, run_underlying ht, hf, asAgg, k1]

theorem op_idxA (hR : R P γ a w s) (hG : GlobOK E γ) {t e : TypeId} {len : Nat} {i : TypeInfo} {n : Option Nat} {x y : Operand} {x' y' : Opd} (ho : o.op = .index t x y) (ht : P.underlying t = some (.array len e)) (hi : P.info? e = some i) (hn : aggN P e = some n)
    (hx : opd x = some x') (hy : opd y = some y') (h : stepV E cf q o.dst s (.idxA len i.size n x' y') = some (av, s1)) : Done P γ a w o av s1 := by
  have hv := ev_rep hR hG hx
  simp only [stepV] at h
  split at h <;> try (simp at h; done)
  rename_i cs k m hcs hm
  split at h <;> try (simp at h; done)
  rename_i j hj
  split at h <;> try (simp at h; done)
  rename_i v hvv
  simp only [Option.some.injEq, Prod.mk.injEq] at h
  obtain ⟨rfl, rfl⟩ := h
  have h2 := (ev_rep hR hG hy).int hm
  obtain ⟨c1, c2, rfl, c4⟩ := below_spec hj
  rw [hcs] at hv
  obtain ⟨vs, hu, g1, g2, g3⟩ := hv.sv_inv.agg_inv
  obtain ⟨u, k1, k2⟩ := run_part (P := P) (w := w) hn g1 g2 g3 hvv
  refine Done.sv hR ?_ k2
  simp only [execOp, ho, hu, h2]
  simp [Instr.index, asIntOf, run_underlying ht, c1, c2, sizeOf, typeInfo, hi, k1]

/-- What lies at an address. -/
theorem cellsAt_rep (hb : BoxesOK P γ w s.bx) {ℓ : Loc} {u : Value} (h : RepA P γ w ℓ av u) {cs : List SV} (e : cellsAt s av = some cs) :
    ∃ (b off : Nat) (vs : Nat → Value), u = .pointer (some ⟨b, off, none⟩) ∧ ∀ (j : Nat) (x : SV), cs[j]? = some x → x.one = true ∧ w.cell? ⟨b, off + j, none⟩ = some (vs j) ∧ RepS γ.F x (vs j) := by
  unfold cellsAt at e
  split at e
  · rename_i cs'
    simp only [Option.some.injEq] at e; subst e
    obtain ⟨b, off, vs, rfl, hF, ho, hr⟩ := h.sv_inv.ref_inv
    exact ⟨b, off, vs, rfl, fun j x hx => ⟨ho j x hx, hb.Fw _ _ _ (hF j (List.getElem?_eq_some_iff.1 hx).1), hr j x hx⟩⟩
  · rename_i i off
    cases h with
    | ptr _ _ blk hblk =>
      split at e
      · rename_i cl hcl
        simp only [Option.some.injEq] at e; subst e
        obtain ⟨arr, t, m, k1, ⟨k2, _⟩, k3, k4⟩ := hb.box i _ blk hcl hblk
        refine ⟨blk, off, fun j => arr.getD (off + j) undef, rfl, fun j x hx => ?_⟩
        rw [List.getElem?_map, List.getElem?_drop] at hx
        obtain ⟨c, hc, rfl⟩ := Option.map_eq_some_iff.1 hx
        have hlt : off + j < arr.size := by have := (List.getElem?_eq_some_iff.1 hc).1; omega
        have hcell : w.cell? ⟨blk, off + j, none⟩ = some (arr.getD (off + j) undef) := by
          rw [cell_of_row w blk (off + j) arr t m k1]
          simp [Array.getD_eq_getD_getElem?, Array.getElem?_eq_getElem hlt]
        have := k3 _ _ hc
        cases c with
        | sv v => exact ⟨this.1, hcell, this.2⟩
        | own e xs => exact ⟨rfl, hcell, RepO.rep this⟩
        | lnk k o =>
          obtain ⟨b, _, e⟩ := this
          refine ⟨rfl, hcell, ?_⟩
          show RepS γ.F (.ref []) (arr.getD (off + j) undef)
          rw [e]
          exact .ref [] b o (fun _ => undef) (by simp) (by simp) (by simp)
        | lrw k n e =>
          obtain ⟨b, c, _, _, e⟩ := this
          refine ⟨rfl, hcell, ?_⟩
          show RepS γ.F .unk (arr.getD (off + j) undef)
          rw [e]
          exact .unk _ rfl rfl
      · rename_i cl hcl
        simp only [Option.some.injEq] at e; subst e
        obtain ⟨_, arr, k2, k3⟩ := hb.box i _ blk hcl hblk
        refine ⟨blk, off, fun j => arr.getD (off + j) undef, rfl, fun j x hx => ?_⟩
        rw [List.getElem?_drop] at hx
        exact ⟨(k3 _ _ hx).1, hb.Fw _ _ _ (k3 _ _ hx).2.1, (k3 _ _ hx).2.2⟩
      · simp at e
  · simp at e

theorem run_loadVar {t : TypeId} {n : Option Nat} (h : aggN P t = some n) {F : Frz} {cs : List SV} {b off : Nat} {vs : Nat → Value}
    (hc : ∀ (j : Nat) (x : SV), cs[j]? = some x → x.one = true ∧ w.cell? ⟨b, off + j, none⟩ = some (vs j) ∧ RepS F x (vs j)) {v : SV} (hv : takeN n cs = some v) :
    ∃ u, (loadVar t ⟨b, off, none⟩).run P w = .ok u w ∧ RepS F v u := by
  obtain ⟨h1, i, hi, h2⟩ := run_isAgg (P := P) (w := w) h
  cases n with
  | none =>
    simp only [takeN] at hv
    split at hv <;> simp only [Option.some.injEq, reduceCtorEq] at hv
    rename_i c rest
    subst hv
    obtain ⟨g1, g2, g3⟩ := hc 0 c rfl
    refine ⟨vs 0, ?_, g3⟩
    rw [Nat.add_zero] at g2
    simp [loadVar, h1, g2]
  | some k =>
    simp only [takeN] at hv
    split at hv <;> simp only [Option.some.injEq, reduceCtorEq] at hv
    rename_i hk
    subst hv
    have hik : i.size = k := h2
    have hl := run_loadCells (P := P) w ⟨b, off, none⟩ k vs (fun j hj => by
      rw [add_none]
      exact (hc j cs[j] (by simp [show j < cs.length by omega])).2.1)
    refine ⟨.agg ((List.range k).map vs).toArray, ?_, .agg _ _ (by simp; omega) (fun j x hx => ?_) (fun j x hx => ?_)⟩
    · simp [loadVar, h1, sizeOf, typeInfo, hi, hik, hl]
    · rw [List.getElem?_map] at hx
      obtain ⟨y, hy, rfl⟩ := Option.map_eq_some_iff.1 hx
      rw [List.getElem?_take] at hy
      split at hy
      · exact SV.can0_one (hc _ _ hy).1
      · simp at hy
    · rw [List.getElem?_map] at hx
      obtain ⟨y, hy, rfl⟩ := Option.map_eq_some_iff.1 hx
      rw [List.getElem?_take] at hy
      split at hy
      · rename_i hj
        have := (hc _ _ hy).2.2.can0
        simpa [Array.getD_eq_getD_getElem?, hj] using this
      · simp at hy

theorem op_loadL (hR : R P γ a w s) (hG : GlobOK E γ) {t : TypeId} {x : Operand} {x' : Opd} (ho : o.op = .load t x) (hn : aggN P t = some none) (hx : opd x = some x')
    (h : stepV E cf q o.dst s (.loadL x') = some (av, s1)) : Done P γ a w o av s1 := by
  simp only [stepV] at h
  split at h <;> try (simp at h; done)
  rename_i cs hcs
  split at h <;> try (simp at h; done)
  rename_i v hvv
  simp only [Option.some.injEq, Prod.mk.injEq] at h
  obtain ⟨rfl, rfl⟩ := h
  obtain ⟨b, off, vs, hu, hc⟩ := cellsAt_rep hR.bx (ev_rep hR hG hx) hcs
  obtain ⟨u, k1, k2⟩ := run_loadVar (P := P) (w := w) hn hc hvv
  refine Done.sv hR ?_ k2
  simp only [execOp, ho, hu]
  simp [Instr.loadAt, Instr.sureAddr, k1]

end Go.Ev

set_option linter.unusedSimpArgs false
set_option linter.unusedVariables false
namespace Go.Ev
variable {P : Program} {E : Env} {γ : Gh} {a : Act} {w : World} {s : St} {o : Oper} {cf : CallF} {q : Bool} {s1 : St} {av : AV}

theorem GlobOK.mono (h : GlobOK E γ) {γ' : Gh} (hF : ∀ b o v, γ.F b o v → γ'.F b o v) : GlobOK E γ' := fun g => (h g).mono hF

theorem fresh_alloc {bx : List Box} (hb : BoxesOK P γ w bx) (o : Obj) : Fresh γ w γ (w.alloc o) where
  os := rfl
  tape := rfl
  output := rfl
  size := by simp
  blk := fun b hb => heap_alloc_old w o b hb
  F := fun _ _ _ h => h
  Fold := fun _ _ _ _ h => h
  Fw := fun b o' v h => (World.cell?_alloc_lt (w := w) (o := o) (a := ⟨b, o', none⟩) (lt_of_cell (hb.Fw _ _ _ h))).trans (hb.Fw _ _ _ h)
  β := rfl
  sh := rfl
  ow := fun _ _ => rfl
  new := fun b ℓ hl ho => by have := (hb.ow b ℓ ho).1; omega

theorem getElem?_snoc {α : Type} {l : List α} {x y : α} {i : Nat} (h : l[i]? = some y) : (l ++ [x])[i]? = some y := by
  rw [List.getElem?_append_left (List.getElem?_eq_some_iff.1 h).1]; exact h

/-- No two boxes share a block, but for dead ones. -/
def OneBox (β : List Nat) (bx : List Box) : Prop := ∀ (i j b : Nat), β[i]? = some b → β[j]? = some b → i = j ∨ bx[i]? = some (.frz []) ∨ bx[j]? = some (.frz [])

theorem nodup_snoc {β : List Nat} {bx : List Box} {blk : Nat} {bb : Box} (hl : β.length = bx.length) (h : OneBox β bx) (hn : ∀ j : Nat, β[j]? = some blk → bx[j]? = some (.frz [])) : OneBox (β ++ [blk]) (bx ++ [bb]) := by
  have key : ∀ i b : Nat, (β ++ [blk])[i]? = some b → (β[i]? = some b ∧ i < bx.length) ∨ (i = β.length ∧ b = blk) := by
    intro i b hi
    by_cases hlt : i < β.length
    · rw [List.getElem?_append_left hlt] at hi
      exact .inl ⟨hi, by omega⟩
    · rw [List.getElem?_append_right (by omega)] at hi
      have := (List.getElem?_eq_some_iff.1 hi).1
      simp only [List.length_singleton] at this
      have h0 : i - β.length = 0 := by omega
      rw [h0] at hi
      simp only [List.getElem?_cons_zero, Option.some.injEq] at hi
      exact .inr ⟨by omega, hi.symm⟩
  intro i j b hi hj
  rcases key i b hi with ⟨h1, h2⟩ | ⟨h1, h2⟩ <;> rcases key j b hj with ⟨g1, g2⟩ | ⟨g1, g2⟩
  · rw [List.getElem?_append_left h2, List.getElem?_append_left g2]
    exact h i j b h1 g1
  · subst g2
    rw [List.getElem?_append_left h2]
    exact .inr (.inl (hn i h1))
  · subst h2
    rw [List.getElem?_append_left g2]
    exact .inr (.inr (hn j g1))
  · exact .inl (by omega)

theorem nodup_set {β : List Nat} {bx : List Box} {i0 : Nat} {b0 bb : Box} (h : OneBox β bx) (h0 : bx[i0]? = some b0) (hb : b0 = .frz [] → bb = .frz []) : OneBox β (bx.set i0 bb) := by
  have hlt := (List.getElem?_eq_some_iff.1 h0).1
  have key : ∀ i : Nat, bx[i]? = some (.frz []) → (bx.set i0 bb)[i]? = some (.frz []) := by
    intro i hi
    rw [List.getElem?_set]
    split
    · rename_i e
      subst e
      rw [hi] at h0
      rw [hb (Option.some.inj h0).symm]
    · exact hi
  intro i j b hi hj
  rcases h i j b hi hj with e | e | e
  · exact .inl e
  · exact .inr (.inl (key i e))
  · exact .inr (.inr (key j e))

/-- Another box of the same block is dead. -/
theorem other_dead {β : List Nat} {bx : List Box} {i j blk : Nat} {b0 b : Box} (h : OneBox β bx) (hi : bx[i]? = some b0) (hd : b0 ≠ .frz []) (hk : β[i]? = some blk) (hj : bx[j]? = some b) (hk' : β[j]? = some blk) (hne : j ≠ i) : b = .frz [] := by
  rcases h i j blk hk hk' with e | e | e
  · exact absurd e.symm hne
  · rw [hi] at e; exact absurd (Option.some.inj e) hd
  · rw [hj] at e; exact Option.some.inj e

theorem dead_rep {γ : Gh} {w : World} {i blk : Nat} (h : blk < w.heap.size) : RepB P γ w i blk (.frz []) := ⟨h, #[], by simp, by simp⟩

theorem R.addBoxB (hR : R P γ a w s) {blk : Nat} {bb : Box} (hn : ∀ j : Nat, γ.β[j]? = some blk → s.bx[j]? = some (.frz [])) (ho : γ.ow blk = none) (hB : RepB P { γ with β := γ.β ++ [blk] } w s.bx.length blk bb) :
    R P { γ with β := γ.β ++ [blk] } a w { s with bx := s.bx ++ [bb] } := by
  have hβ : ∀ i b : Nat, γ.β[i]? = some b → (γ.β ++ [blk])[i]? = some b := fun i b h => getElem?_snoc h
  have hA : ∀ {ℓ : Loc} {av : AV} {u : Value}, RepA P γ w ℓ av u → RepA P { γ with β := γ.β ++ [blk] } w ℓ av u := fun h =>
    h.keep (fun _ _ _ h => h) hβ (fun _ _ hg => ⟨rfl, fun _ _ h => h, hg⟩)
  refine ⟨⟨by simp [hR.bx.len], ?_, ?_, hR.bx.Fw, ?_, fun b e c hs => ⟨List.mem_append_left _ (hR.bx.sh b e c hs).1, (hR.bx.sh b e c hs).2⟩⟩, hR.sz, fun t' ht => hA (hR.tm t' ht), ?_, hR.dl, ?_⟩
  · intro i b blk' hi hk
    by_cases hlt : i < s.bx.length
    · rw [List.getElem?_append_left hlt] at hi
      rw [List.getElem?_append_left (by rw [hR.bx.len]; exact hlt)] at hk
      exact (hR.bx.box i b blk' hi hk).keep (fun _ _ _ h => h) rfl (fun _ _ h => h) (fun _ _ hg => ⟨rfl, fun _ _ h => h, hg⟩) hβ
    · rw [List.getElem?_append_right (by omega)] at hi
      rw [List.getElem?_append_right (by rw [hR.bx.len]; omega), hR.bx.len] at hk
      have hi0 : i - s.bx.length = 0 := by
        have := (List.getElem?_eq_some_iff.1 hi).1
        simp at this; omega
      rw [hi0] at hi hk
      simp at hi hk
      subst hi; subst hk
      rw [show i = s.bx.length from by omega]
      exact hB
  · exact nodup_snoc hR.bx.len hR.bx.nodup hn
  · intro b ℓ hb
    obtain ⟨k1, k2⟩ := hR.bx.ow b ℓ hb
    refine ⟨k1, ?_⟩
    simp only [List.mem_append, List.mem_singleton, not_or]
    exact ⟨k2, fun e => by subst e; rw [ho] at hb; simp at hb⟩
  · intro d ℓ hd
    have := hR.lz d ℓ hd
    cases ℓ with
    | tmp t' => exact this
    | cell i off => obtain ⟨b, h1, h2⟩ := this; exact ⟨b, hβ _ _ h1, h2⟩
    | ret => trivial
  · intro i d c hd hc
    exact hR.df i d c hd hc

theorem R.addBox (hR : R P γ a w s) {blk : Nat} {arr : Array Value} {t : TypeId} {m : Nat × Nat} (hh : w.heap[blk]? = some (.cells arr t m)) (hn : ∀ j : Nat, γ.β[j]? = some blk → s.bx[j]? = some (.frz [])) (ho : γ.ow blk = none) (hF : ∀ o v, ¬ γ.F blk o v)
    (cs : List SV) (hs : cs.length ≤ arr.size) (hm : Free m cs.length) (hr : ∀ (j : Nat) (x : SV), cs[j]? = some x → x.one = true ∧ RepS γ.F x (arr.getD j undef)) :
    R P { γ with β := γ.β ++ [blk] } a w { s with bx := s.bx ++ [.live (cs.map .sv)] } := by
  refine hR.addBoxB hn ho ⟨arr, t, m, hh, ⟨by simpa using hs, by simpa using hm⟩, fun j c hc => ?_, hF⟩
  rw [List.getElem?_map] at hc
  obtain ⟨x, hx, rfl⟩ := Option.map_eq_some_iff.1 hc
  exact hr j x hx

/-- A new box. -/
theorem R.push (hR : R P γ a w s) (arr : Array Value) (t : TypeId) (cs : List SV) (hs : arr.size = cs.length) (hr : ∀ (j : Nat) (x : SV), cs[j]? = some x → x.one = true ∧ RepS γ.F x (arr.getD j undef)) :
    ∃ γ', R P γ' a (w.alloc (.cells arr t)) { s with bx := s.bx ++ [.live (cs.map .sv)] } ∧ Ext γ w γ' (w.alloc (.cells arr t)) ∧ γ'.β[s.bx.length]? = some w.heap.size ∧ γ'.F = γ.F := by
  have hf := fresh_alloc hR.bx (.cells arr t)
  have h1 := hf.R hR
  have hnF : ∀ o v, ¬ γ.F w.heap.size o v := fun o v h => by have := lt_of_cell (hR.bx.Fw _ _ _ h); omega
  have hnβ : w.heap.size ∉ γ.β := fun h => by have := hR.bx.β_lt h; omega
  have hno : γ.ow w.heap.size = none := by
    cases h : γ.ow w.heap.size with
    | none => rfl
    | some ℓ => have := (hR.bx.ow _ _ h).1; omega
  refine ⟨_, h1.addBox (heap_alloc_new w _) (fun j hj => absurd (List.mem_of_getElem? hj) hnβ) hno hnF cs (by omega) (free00 _) hr, ?_, ?_, rfl⟩
  · have he := hf.ext
    exact ⟨he.os, he.tape, he.output, he.size, he.F, ⟨[w.heap.size], rfl, by simp⟩, he.blk, he.Fnew, he.own, he.sh⟩
  · rw [List.getElem?_append_right (by rw [hR.bx.len]; omega), hR.bx.len]; simp

/-- A box that is written no more: its cells stay. -/
theorem R.freeze (hR : R P γ a w s) {i blk : Nat} {b : Box} (hi : s.bx[i]? = some b) (hk : γ.β[i]? = some blk) :
    ∃ γ', R P γ' a w { s with bx := s.bx.set i (.frz b.cells) } ∧ Ext γ w γ' w ∧ γ'.β = γ.β ∧
      ∃ arr : Array Value, b.cells.length ≤ arr.size ∧ ∀ (j : Nat) (x : SV), b.cells[j]? = some x → x.one = true ∧ γ'.F blk j (arr.getD j undef) ∧ RepS γ'.F x (arr.getD j undef) := by
  have hilt : i < s.bx.length := (List.getElem?_eq_some_iff.1 hi).1
  have hb := hR.bx.box i b blk hi hk
  cases b with
  | frz cs =>
    obtain ⟨_, arr, k2, k3⟩ := hb
    have hset : s.bx.set i (.frz cs) = s.bx := by
      apply List.ext_getElem?
      intro j
      rw [List.getElem?_set]
      split
      · rename_i e; subst e; simp [hilt]; exact (List.getElem?_eq_some_iff.1 hi).2.symm
      · rfl
    refine ⟨γ, ?_, Ext.refl _ _, rfl, arr, k2, k3⟩
    simp only [Box.cells, hset]
    exact ⟨hR.bx, hR.sz, hR.tm, hR.lz, hR.dl, hR.df⟩
  | it l p =>
    refine ⟨γ, ⟨⟨by simp [hR.bx.len], ?_, nodup_set hR.bx.nodup hi (by simp), hR.bx.Fw, hR.bx.ow, hR.bx.sh⟩, hR.sz, hR.tm, hR.lz, hR.dl, hR.df⟩, Ext.refl _ _, rfl, #[], by simp [Box.cells], by simp [Box.cells]⟩
    intro i' b' blk' hi' hk'
    rw [List.getElem?_set] at hi'
    split at hi'
    · rename_i e
      subst e
      simp only [hilt, if_true, Option.some.injEq] at hi'
      subst hi'
      have : blk' = blk := by have h := hk'.symm.trans hk; simpa using h
      subst this
      exact ⟨heap_lt hb, #[], by simp [Box.cells], by simp [Box.cells]⟩
    · exact hR.bx.box i' b' blk' hi' hk'
  | live cs =>
    obtain ⟨arr, t, m, k1, ⟨k2, kf⟩, k3, k4⟩ := hb
    let γ' : Gh := { γ with F := fun b o v => γ.F b o v ∨ (b = blk ∧ arr[o]? = some v) }
    have hFs : ∀ b o v, γ.F b o v → γ'.F b o v := fun b o v h => .inl h
    have hFn : ∀ g, g ≠ blk → ∀ o v, γ'.F g o v → γ.F g o v := fun g hg o v h => h.resolve_right (fun h => hg h.1)
    have hblkβ : blk ∈ γ.β := List.mem_of_getElem? hk
    have hog : ∀ g ℓ, γ.ow g = some ℓ → g ≠ blk := fun g ℓ h e => (hR.bx.ow g ℓ h).2 (e ▸ hblkβ)
    have hA : ∀ {ℓ : Loc} {av : AV} {u : Value}, RepA P γ w ℓ av u → RepA P γ' w ℓ av u := fun h =>
      h.keep hFs (fun _ _ h => h) (fun g _ hg => ⟨rfl, hFn g (hog g _ hg), hg⟩)
    have hcells : ∀ (j : Nat) (x : SV), (cs.map Cell.plain)[j]? = some x → x.one = true ∧ γ'.F blk j (arr.getD j undef) ∧ RepS γ'.F x (arr.getD j undef) := by
      intro j x hx
      rw [List.getElem?_map] at hx
      obtain ⟨c, hc, rfl⟩ := Option.map_eq_some_iff.1 hx
      have hlt : j < arr.size := by have := (List.getElem?_eq_some_iff.1 hc).1; omega
      have hF : γ'.F blk j (arr.getD j undef) := .inr ⟨rfl, by simp [Array.getD_eq_getD_getElem?, Array.getElem?_eq_getElem hlt]⟩
      have hcr := k3 j c hc
      cases c with
      | sv v => exact ⟨SV.can0_one hcr.1, hF, hcr.2.can0.mono hFs⟩
      | own e xs => exact ⟨rfl, hF, (RepO.rep hcr).mono hFs⟩
      | lnk k o =>
        obtain ⟨b, _, e⟩ := hcr
        refine ⟨rfl, hF, ?_⟩
        show RepS γ'.F (.ref []) (arr.getD j undef)
        rw [e]
        exact .ref [] b o (fun _ => undef) (by simp) (by simp) (by simp)
      | lrw k n e =>
        obtain ⟨b, c, _, _, e⟩ := hcr
        refine ⟨rfl, hF, ?_⟩
        show RepS γ'.F .unk (arr.getD j undef)
        rw [e]
        exact .unk _ rfl rfl
    refine ⟨γ', ⟨⟨by simp [hR.bx.len, γ'], ?_, nodup_set hR.bx.nodup hi (by simp), ?_, hR.bx.ow, hR.bx.sh⟩, hR.sz, fun t' ht => hA (hR.tm t' ht), fun d ℓ h => by
      have := hR.lz d ℓ h
      cases ℓ <;> exact this, hR.dl, ?_⟩, ?_, rfl, arr, by simp [Box.cells, k2], hcells⟩
    · intro i' b' blk' hi' hk'
      rw [List.getElem?_set] at hi'
      split at hi'
      · rename_i e
        subst e
        simp only [hilt, if_true, Option.some.injEq] at hi'
        subst hi'
        have : blk' = blk := by have h := hk'.symm.trans hk; simpa using h
        subst this
        exact ⟨heap_lt k1, arr, by simp [Box.cells, k2], hcells⟩
      · rename_i e
        by_cases hne : blk' = blk
        · subst hne
          have := other_dead hR.bx.nodup hi (by simp) hk hi' hk' (fun h => e h.symm)
          subst this
          exact dead_rep (heap_lt k1)
        · exact (hR.bx.box i' b' blk' hi' hk').keep hFs rfl (hFn blk' hne) (fun g j hg => ⟨rfl, hFn g (hog g _ hg), hg⟩) (fun _ _ h => h)
    · intro b' o' v hF
      rcases hF with hF | ⟨rfl, hv⟩
      · exact hR.bx.Fw _ _ _ hF
      · rw [cell_of_row w b' o' arr t m k1]; exact hv
    · intro j d c hd hc
      exact hR.df j d c hd hc
    · exact ⟨rfl, rfl, rfl, Nat.le_refl _, hFs, ⟨[], by simp [γ'], by simp⟩, fun _ _ => rfl, fun b' o' v hf h => hFn b' (fun e => hf.2.1 (e ▸ hblkβ)) o' v h, fun _ h => h.2.2, fun _ _ h => h⟩

/-- What can be shared: one cell, or cells. -/
def SV.fit (x : SV) : Prop := x.one = true ∨ ∃ cs, x = .agg cs

theorem can_fit {F : Frz} {v : SV} {u : Value} (h : RepS F v u) (h1 : v ≠ .undef) (h3 : v ≠ .off) (h2 : ∀ l, v ≠ .tup l) : v.can.fit := by
  cases v <;> first | exact absurd rfl h1 | exact absurd rfl h3 | exact absurd rfl (h2 _) | exact .inl rfl | exact .inr ⟨_, rfl⟩

theorem flat_ones {l : List SV} (h : ∀ (j : Nat) (x : SV), l[j]? = some x → x.one = true) : flat l = l := by
  induction l with
  | nil => rfl
  | cons x xs ih => rw [flat_cons, SV.cells_one (h 0 x rfl), ih (fun j y hy => h (j + 1) y (by simpa using hy))]; rfl

theorem chunk_spec (k : Nat) : ∀ (n : Nat) (cs : List SV), cs.length = n * k → (∀ x ∈ cs, x.one = true) → (chunk k n cs).length = n ∧ (∀ x ∈ chunk k n cs, x.cells.length = k) ∧ (0 < k → flat (chunk k n cs) = cs)
  | 0, cs, h, _ => by
    have : cs = [] := List.eq_nil_of_length_eq_zero (by simpa using h)
    subst this
    exact ⟨rfl, by simp [chunk], fun _ => rfl⟩
  | n + 1, cs, h, ho => by
    have hk : k ≤ cs.length := by rw [h, Nat.add_mul]; omega
    obtain ⟨h1, h2, h3⟩ := chunk_spec k n (cs.drop k) (by rw [List.length_drop, h, Nat.add_mul]; omega) (fun x hx => ho x (List.mem_of_mem_drop hx))
    have hx : ∀ x, x = (if k = 1 then cs.headD .undef else SV.agg (cs.take k)) → x.cells.length = k ∧ (x.cells = cs.take k) := by
      intro x e
      subst e
      split
      · rename_i e1
        subst e1
        cases cs with
        | nil => simp at hk
        | cons c cs =>
          have := SV.cells_one (ho c (by simp))
          simp only [List.headD_cons]
          rw [this]
          simp
      · exact ⟨by simp [SV.cells, Nat.min_eq_left hk], rfl⟩
    obtain ⟨q1, q2⟩ := hx _ rfl
    refine ⟨by simp [chunk, h1], fun y hy => ?_, fun hk0 => ?_⟩
    · simp only [chunk] at hy
      rcases List.mem_cons.1 hy with rfl | hy
      · exact q1
      · exact h2 y hy
    · simp only [chunk]
      rw [flat_cons, q2, h3 hk0, List.take_append_drop]

theorem RepS.sl' {F : Frz} (xs : List SV) (b o c k n : Nat) (vs : Nat → Value) (hk : 0 < k) (hn : xs.length = n) (h0 : 0 < n) (hc : n ≤ c) (hl : ∀ x ∈ xs, x.cells.length = k)
    (hF : ∀ j, j < n * k → F b (o + j) (vs j)) (ho : ∀ (j : Nat) (x : SV), (flat xs)[j]? = some x → x.one = true)
    (hr : ∀ (j : Nat) (x : SV), (flat xs)[j]? = some x → RepS F x (vs j)) : RepS F (.sl xs) (.slice (some ⟨b, o, none⟩) n c) := by
  subst hn
  exact .sl xs b o c k vs hk (by intro e; subst e; simp at h0) hc hl hF ho hr

theorem sink_ok (hR : R P γ a w s) {ℓ : Loc} {u : Value} (hv : RepA P γ w ℓ av u) {x : SV} {s' : St} (h : sink s av = some (x, s')) :
    ∃ γ', R P γ' a w s' ∧ Ext γ w γ' w ∧ RepS γ'.F x u ∧ x.fit ∧ s'.tm = s.tm ∧ s'.df = s.df ∧ γ'.β = γ.β := by
  unfold sink at h
  split at h
  · simp at h
  · simp at h
  · simp at h
  · rename_i v hn1 hn3 hn2
    simp only [Option.some.injEq, Prod.mk.injEq] at h
    obtain ⟨rfl, rfl⟩ := h
    exact ⟨γ, hR, Ext.refl _ _, hv.sv_inv.can, can_fit hv.sv_inv (fun e => hn1 (by rw [e])) (fun e => hn3 (by rw [e])) (fun l e => hn2 l (by rw [e])), rfl, rfl, rfl⟩
  · simp only [Option.some.injEq, Prod.mk.injEq] at h
    obtain ⟨rfl, rfl⟩ := h
    cases hv with
    | own _ _ _ h => exact ⟨γ, hR, Ext.refl _ _, h.rep, .inl rfl, rfl, rfl, rfl⟩
  · rename_i i off
    split at h <;> simp only [Option.some.injEq, Prod.mk.injEq, reduceCtorEq] at h
    rename_i b hb
    obtain ⟨rfl, rfl⟩ := h
    cases hv with
    | ptr _ _ blk hblk =>
      obtain ⟨γ', h1, h2, h3, arr, h4, h5⟩ := hR.freeze hb hblk
      refine ⟨γ', h1, h2, .ref _ blk off (fun j => arr.getD (off + j) undef) (fun j hj => ?_) (fun j x hx => ?_) (fun j x hx => ?_), .inl rfl, rfl, rfl, h3⟩
      · simp only [List.length_drop] at hj
        exact (h5 (off + j) b.cells[off + j] (by simp [show off + j < b.cells.length by omega])).2.1
      · rw [List.getElem?_drop] at hx; exact (h5 _ _ hx).1
      · rw [List.getElem?_drop] at hx; exact (h5 _ _ hx).2.2
  · rename_i i n e
    split at h <;> try (simp at h; done)
    split at h <;> try (simp at h; done)
    rename_i b hb
    split at h <;> simp only [Option.some.injEq, Prod.mk.injEq, reduceCtorEq] at h
    rename_i hn
    obtain ⟨rfl, rfl⟩ := h
    cases hv with
    | mrow _ _ _ blk cap hblk hcap =>
      obtain ⟨γ', h1, h2, h3, arr, h4, h5⟩ := hR.freeze hb hblk
      refine ⟨γ', h1, h2, ?_, .inl rfl, rfl, rfl, h3⟩
      subst hn
      by_cases he : b.cells = []
      · rw [he]; exact .slE _ _
      · have hfl := flat_ones (fun j x hx => (h5 j x hx).1)
        refine .sl _ blk 0 _ 1 (fun j => arr.getD j undef) (by omega) he hcap (fun x hx => ?_) (fun j hj => ?_) (fun j x hx => ?_) (fun j x hx => ?_)
        · obtain ⟨j, hj⟩ := List.getElem?_of_mem hx
          rw [SV.cells_one (h5 j x hj).1]; rfl
        · rw [Nat.zero_add]
          exact (h5 j b.cells[j] (by simp [show j < b.cells.length by omega])).2.1
        · rw [hfl] at hx; exact (h5 j x hx).1
        · rw [hfl] at hx; exact (h5 j x hx).2.2
  · rename_i i n k e
    split at h <;> try (simp at h; done)
    rename_i b hb
    split at h <;> simp only [Option.some.injEq, Prod.mk.injEq, reduceCtorEq] at h
    rename_i hn
    obtain ⟨rfl, rfl⟩ := h
    cases hv with
    | grw _ _ _ _ blk cap hblk hsh hcap hke hk0 =>
      obtain ⟨γ', h1, h2, h3, arr, h4, h5⟩ := hR.freeze hb hblk
      refine ⟨γ', h1, h2, ?_, .inl rfl, rfl, rfl, h3⟩
      have hone : ∀ x ∈ b.cells, x.one = true := fun x hx => by
        obtain ⟨j, hj⟩ := List.getElem?_of_mem hx
        exact (h5 j x hj).1
      obtain ⟨c1, c2, c3⟩ := chunk_spec k n b.cells hn hone
      by_cases he : n = 0
      · subst he
        exact .slE _ _
      · refine .sl' _ blk 0 _ k n (fun j => arr.getD j undef) hk0 c1 (by omega) hcap c2 (fun j hj => ?_) (fun j x hx => ?_) (fun j x hx => ?_)
        · rw [Nat.zero_add]
          exact (h5 j b.cells[j] (by simp [show j < b.cells.length by omega])).2.1
        · rw [c3 hk0] at hx; exact (h5 j x hx).1
        · rw [c3 hk0] at hx; exact (h5 j x hx).2.2
  · simp at h

theorem sinkQ_sink {q : Bool} {x : SV} {s' : St} (h : sinkQ q s av = some (x, s')) : sink s av = some (x, s') := by
  unfold sinkQ at h
  split at h
  · simp at h
  · simp at h
  · simp at h
  · exact h

theorem rd_of_tm {s s' : St} (h : s'.tm = s.tm) (n : Nat) : s'.rd n = s.rd n := by simp [St.rd, h]

theorem ev_of_tm {s s' : St} (h : s'.tm = s.tm) (x : Opd) : x.ev E s' = x.ev E s := by cases x <;> simp [Opd.ev, rd_of_tm h]

theorem sinks_ok : ∀ (os : List Operand) (xs : List Opd) (γ : Gh) (s : St) (vs : List SV) (s' : St), allSome (os.map opd) = some xs → R P γ a w s → GlobOK E γ → sinks E q s xs = some (vs, s') →
    ∃ γ', R P γ' a w s' ∧ Ext γ w γ' w ∧ vs.length = os.length ∧ (∀ (j : Nat) (x : SV) (o : Operand), vs[j]? = some x → os[j]? = some o → RepS γ'.F x (a.eval o) ∧ x.fit) ∧ s'.tm = s.tm ∧ s'.df = s.df
  | [], xs, γ, s, vs, s', hx, hR, hG, h => by
    simp only [List.map_nil, allSome, Option.some.injEq] at hx; subst hx
    simp only [sinks, Option.some.injEq, Prod.mk.injEq] at h
    obtain ⟨rfl, rfl⟩ := h
    exact ⟨γ, hR, Ext.refl _ _, rfl, by simp, rfl, rfl⟩
  | o :: os, xs, γ, s, vs, s', hx, hR, hG, h => by
    simp only [List.map_cons] at hx
    cases ho : opd o with
    | none => rw [ho] at hx; simp [allSome] at hx
    | some y =>
      rw [ho] at hx
      simp only [allSome] at hx
      split at hx <;> simp only [Option.some.injEq, reduceCtorEq] at hx
      rename_i ys hys
      subst hx
      simp only [sinks] at h
      split at h <;> try (simp at h; done)
      rename_i v s2 hv
      split at h <;> simp only [Option.some.injEq, Prod.mk.injEq, reduceCtorEq] at h
      rename_i vs' s3 hvs
      obtain ⟨rfl, rfl⟩ := h
      obtain ⟨γ1, h1, h2, h3, h4, h5, h6, _⟩ := sink_ok hR (ev_rep hR hG ho) (sinkQ_sink hv)
      obtain ⟨γ2, k1, k2, k3, k4, k5, k6⟩ := sinks_ok os ys γ1 s2 vs' s3 hys h1 (hG.mono h2.F) hvs
      refine ⟨γ2, k1, h2.trans k2, by simp [k3], fun j x o' hx ho' => ?_, k5.trans h5, k6.trans h6⟩
      cases j with
      | zero =>
        simp only [List.getElem?_cons_zero, Option.some.injEq] at hx ho'
        subst hx; subst ho'
        exact ⟨h3.mono k2.F, h4⟩
      | succ j => exact k4 j x o' (by simpa using hx) (by simpa using ho')

theorem op_mkI (hR : R P γ a w s) (hG : GlobOK E γ) {t : TypeId} {d : TypeDesc} {x : Operand} {x' : Opd} (ho : o.op = .makeInterface t x) (ht : P.underlying t = some d) (hd : ∀ ms, d ≠ .interface ms) (hx : opd x = some x')
    (h : stepV E cf q o.dst s (.mkI t x') = some (av, s1)) : Done P γ a w o av s1 := by
  simp only [stepV] at h
  split at h <;> simp only [Option.some.injEq, Prod.mk.injEq, reduceCtorEq] at h
  rename_i v s2 hv
  obtain ⟨rfl, rfl⟩ := h
  obtain ⟨γ1, h1, h2, h3, h4, _⟩ := sink_ok hR (ev_rep hR hG hx) (sinkQ_sink hv)
  refine ⟨.iface t (a.eval x), w, γ1, .inl ?_, h2, h1, .sv _ _ _ (.iface _ _ _ h3)⟩
  simp only [execOp, ho]
  cases d <;> first | (simp [Instr.makeInterface, run_underlying ht]; done) | exact absurd rfl (hd _)

end Go.Ev
