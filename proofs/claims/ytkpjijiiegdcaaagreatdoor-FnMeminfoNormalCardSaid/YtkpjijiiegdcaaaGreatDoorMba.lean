/- The table of functions, entry by entry: numbers, texts, lists. -/
/- The table of functions, entry by entry: swaps. -/
/- Entries of the counters of transformations. -/
/- Entries of the counters of transformations: what is written is read. -/
import Derived.Test.YtkpjijiiegdcaaaGreatDoorMaz
set_option linter.unusedSimpArgs false
set_option linter.unusedVariables false
namespace Go.Ev
open Go.Proofs

/-- What every entry rests on. -/
structure Base (P : Program) (E : Env) : Prop where
  m : P.follows .mixedOrders = true
  T : CodeT P E
  Q : QuietOK P E
  P : PureOK P E

variable {P : Program} {E : Env}

theorem p134 (B : Base P E) (h : E.code 204 = some c134) : PureFn P E 204 F134 := by
  refine PureFn.of B.m B.T B.Q B.P fun vs r hF => ?_
  unfold F134 at hF
  split at hF
  · obtain ⟨⟨h0, h1⟩, hr⟩ := onlyIf_some hF
    rename_i c
    obtain ⟨k, rfl⟩ := Int.eq_ofNat_of_zero_le h0
    simp only [Option.some.injEq, Int.toNat_natCast] at hr; subst hr
    exact ⟨1, _, ev134 E h 1 k (by omega), .inl rfl⟩
  · cases hF

theorem p123 (B : Base P E) (h : E.code 188 = some c123) (h134 : E.pure 204 = some F134) : PureFn P E 188 F123 := by
  refine PureFn.of B.m B.T B.Q B.P fun vs r hF => ?_
  unfold F123 at hF
  split at hF
  · obtain ⟨⟨h0, rfl⟩, hr⟩ := onlyIf_some hF
    rename_i s
    simp only [Option.some.injEq] at hr; subst hr
    exact ⟨s.length + 1, _, ev123 E h h134 s h0 _ (by omega), .inl rfl⟩
  · cases hF

theorem p81 (B : Base P E) (h : E.code 54 = some c81) (h123 : E.pure 188 = some F123) : PureFn P E 54 F81 := by
  refine PureFn.of B.m B.T B.Q B.P fun vs r hF => ?_
  unfold F81 at hF
  split at hF
  · obtain ⟨h0, hr⟩ := onlyIf_some hF
    rename_i s
    simp only [Option.some.injEq] at hr; subst hr
    exact ⟨1, _, ev81 E h h123 s h0 _, .inl rfl⟩
  · cases hF

theorem p97 (B : Base P E) (h : E.code 60 = some c97) : PureFn P E 60 F97 := by
  refine PureFn.of_rec size97 B.m B.T B.Q B.P fun m vs r hF hs => ?_
  unfold F97 at hF
  split at hF
  · obtain ⟨⟨h0, h1, rfl⟩, hr⟩ := onlyIf_some hF
    rename_i c
    obtain ⟨k, rfl⟩ := Int.eq_ofNat_of_zero_le h0
    simp only [Option.some.injEq, Int.toNat_natCast] at hr; subst hr
    simp only [size97, Int.toNat_natCast] at hs
    subst hs
    exact ⟨1, _, ev97 E h 1 k (by omega), .inl rfl⟩
  · cases hF

theorem p45 (B : Base P E) (h : E.code 29 = some c45) (h97 : E.pure 60 = some F97) : PureFn P E 29 F45 := by
  refine PureFn.of B.m B.T B.Q B.P fun vs r hF => ?_
  unfold F45 at hF
  split at hF
  · obtain ⟨⟨h0, h1⟩, hr⟩ := onlyIf_some hF
    rename_i c
    obtain ⟨k, rfl⟩ := Int.eq_ofNat_of_zero_le h0
    simp only [Option.some.injEq, Int.toNat_natCast] at hr; subst hr
    exact ⟨1, _, ev45 E h h97 1 k (by omega), .inl rfl⟩
  · cases hF

theorem p78 (B : Base P E) (h : E.code 174 = some c78) : PureFn P E 174 F78 := by
  refine PureFn.of B.m B.T B.Q B.P fun vs r hF => ?_
  unfold F78 at hF
  split at hF
  · obtain ⟨h0, hr⟩ := onlyIf_some hF
    rename_i s
    simp only [Option.some.injEq] at hr; subst hr
    exact ⟨s.length + 1, _, ev78 E h s h0 _ (by omega), .inl rfl⟩
  · cases hF

theorem p55 (B : Base P E) (h : E.code 46 = some c55) : PureFn P E 46 F55 := by
  refine PureFn.of B.m B.T B.Q B.P fun vs r hF => ?_
  unfold F55 at hF
  split at hF
  · rename_i s ns ss a b
    simp only [Option.some.injEq] at hF; subst hF
    exact ⟨1, _, ev55 E h s ns ss a b 1, .inl rfl⟩
  · cases hF

theorem p57 (B : Base P E) (h : E.code 58 = some c57) : PureFn P E 58 F57 := by
  refine PureFn.of B.m B.T B.Q B.P fun vs r hF => ?_
  unfold F57 at hF
  split at hF
  · obtain ⟨⟨h0, h1, h2⟩, hr⟩ := onlyIf_some hF
    rename_i a l
    obtain ⟨k, rfl⟩ := Int.eq_ofNat_of_zero_le h0
    simp only [Option.some.injEq, Int.toNat_natCast] at hr; subst hr
    rw [h1]
    have := ev57 E h k (l.map unint) (by simpa using h2) (l.length + 1) (by simp)
    rw [← h1] at this ⊢
    exact ⟨_, _, this, .inl rfl⟩
  · cases hF

theorem p122 (B : Base P E) (h : E.code 196 = some c122) : PureFn P E 196 F122 := by
  refine PureFn.of B.m B.T B.Q B.P fun vs r hF => ?_
  unfold F122 at hF
  split at hF
  · obtain ⟨⟨h0, h1, h2⟩, hr⟩ := onlyIf_some hF
    rename_i l b
    simp only [Option.some.injEq] at hr; subst hr
    have := ev122 E h b (l.map unstr) (by simpa using h1) h2 (l.length + 2) (by simp)
    rw [← h0] at this
    exact ⟨_, _, this, .inl rfl⟩
  · cases hF

theorem p76 (B : Base P E) (h : E.code 43 = some c76) : PureFn P E 43 F76 := by
  refine PureFn.of B.m B.T B.Q B.P fun vs r hF => ?_
  unfold F76 at hF
  split at hF
  · obtain ⟨h0, hr⟩ := onlyIf_some hF
    rename_i s w
    simp only [Option.some.injEq] at hr; subst hr
    exact ⟨1, _, ev76 E h s w h0 1, .inl rfl⟩
  · cases hF

theorem p77 (B : Base P E) (h : E.code 44 = some c77) (h81 : E.pure 54 = some F81) (h45 : E.pure 29 = some F45) : PureFn P E 44 F77 := by
  refine PureFn.of B.m B.T B.Q B.P fun vs r hF => ?_
  unfold F77 at hF
  split at hF
  · obtain ⟨⟨h0, h1, h2⟩, hr⟩ := onlyIf_some hF
    rename_i l
    simp only [Option.some.injEq] at hr; subst hr
    have := ev77 E h h81 h45 (l.map unstr) (by simpa using h1) h2 (l.length + 1) (by simp)
    rw [← h0] at this
    exact ⟨_, _, this, .inl rfl⟩
  · cases hF

theorem p28 (B : Base P E) (h : E.code 41 = some c28) : PureFn P E 41 F28 := by
  refine PureFn.of B.m B.T B.Q B.P fun vs r hF => ?_
  unfold F28 at hF
  split at hF
  · obtain ⟨h0, hr⟩ := onlyIf_some hF
    rename_i s
    simp only [Option.some.injEq] at hr; subst hr
    obtain ⟨r, h1, h2⟩ := ev28 E h s h0 (s.length + 1) (by omega)
    exact ⟨_, r, h1, .inr ⟨_, rfl, h2⟩⟩
  · cases hF

theorem p52 (B : Base P E) (h : E.code 42 = some c52) : PureFn P E 42 F52 := by
  refine PureFn.of B.m B.T B.Q B.P fun vs r hF => ?_
  unfold F52 at hF
  split at hF
  · obtain ⟨h0, hr⟩ := onlyIf_some hF
    rename_i s
    simp only [Option.some.injEq] at hr; subst hr
    obtain ⟨r, h1, h2⟩ := ev52 E h s h0 (s.length + 1) (by omega)
    exact ⟨_, r, h1, .inr ⟨_, rfl, h2⟩⟩
  · cases hF

theorem p33 (B : Base P E) (h : E.code 35 = some c33) : PureFn P E 35 F33 := by
  refine PureFn.of B.m B.T B.Q B.P fun vs r hF => ?_
  unfold F33 at hF
  split at hF
  · rename_i a b
    simp only [Option.some.injEq] at hF; subst hF
    exact ⟨1, _, ev33 E h a b 1, .inl rfl⟩
  · cases hF

theorem p38 (B : Base P E) (h : E.code 37 = some c38) : PureFn P E 37 F38 := by
  refine PureFn.of B.m B.T B.Q B.P fun vs r hF => ?_
  unfold F38 at hF
  split at hF
  · rename_i a
    simp only [Option.some.injEq] at hF; subst hF
    exact ⟨1, _, ev38 E h a 1, .inl rfl⟩
  · cases hF

theorem p85 (B : Base P E) (h : E.code 64 = some c85) : PureFn P E 64 F85 := by
  refine PureFn.of B.m B.T B.Q B.P fun vs r hF => ?_
  unfold F85 at hF
  split at hF
  · rename_i a b
    simp only [Option.some.injEq] at hF; subst hF
    exact ⟨1, _, ev85 E h a b 1, .inl rfl⟩
  · cases hF

theorem p99 (B : Base P E) (h : E.code 63 = some c99) : PureFn P E 63 F99 := by
  refine PureFn.of B.m B.T B.Q B.P fun vs r hF => ?_
  unfold F99 at hF
  split at hF
  · obtain ⟨h0, hr⟩ := onlyIf_some hF
    rename_i s
    simp only [Option.some.injEq] at hr; subst hr
    exact ⟨1, _, ev99 E h s h0 1, .inl rfl⟩
  · cases hF

theorem p127 (B : Base P E) (h : E.code 194 = some c127) (hT : SpT E) : PureFn P E 194 F127 := by
  refine PureFn.of B.m B.T B.Q B.P fun vs r hF => ?_
  unfold F127 at hF
  split at hF
  · obtain ⟨⟨h0, h1⟩, hr⟩ := onlyIf_some hF
    rename_i s
    simp only [Option.some.injEq] at hr; subst hr
    exact ⟨s.length + 1, _, ev127 E h hT s h0 h1 _ (by omega), .inl rfl⟩
  · cases hF

end Go.Ev


set_option linter.unusedSimpArgs false
set_option linter.unusedVariables false
namespace Go.Ev
open Go.Proofs
variable {P : Program} {E : Env}

theorem p44 (B : Base P E) (h : E.code 26 = some c44) : PureFn P E 26 F44 := by
  refine PureFn.of B.m B.T B.Q B.P fun vs r hF => ?_
  unfold F44 at hF
  split at hF
  · obtain ⟨⟨h0, h1, h2⟩, hr⟩ := onlyIf_some hF
    rename_i s n
    obtain ⟨k, rfl⟩ := Int.eq_ofNat_of_zero_le h0
    simp only [Option.some.injEq, Int.toNat_natCast] at hr; subst hr
    exact ⟨k + 1, _, ev44 E h s k (by omega) h2 _ (by omega), .inl rfl⟩
  · cases hF

theorem p30 (B : Base P E) (h : E.code 61 = some c30) : PureFn P E 61 F30 := by
  refine PureFn.of B.m B.T B.Q B.P fun vs r hF => ?_
  unfold F30 at hF
  split at hF
  · rename_i a b
    simp only [Option.some.injEq] at hF; subst hF
    exact ⟨1, _, ev30 E h 1 a b, .inl rfl⟩
  · cases hF

theorem p79 (B : Base P E) (h : E.code 175 = some c79) (h28 : E.pure 41 = some F28) (h52 : E.pure 42 = some F52) (h122 : E.pure 196 = some F122) : PureFn P E 175 F79 := by
  refine PureFn.of B.m B.T B.Q B.P fun vs r hF => ?_
  unfold F79 at hF
  split at hF
  · obtain ⟨⟨h0, h1⟩, hr⟩ := onlyIf_some hF
    rename_i a b
    simp only [Option.some.injEq] at hr; subst hr
    exact ⟨a.length + 2, _, ev79 E h h28 h52 h122 a b h0 h1 _ (by omega), .inl rfl⟩
  · cases hF

theorem p80 (B : Base P E) (h : E.code 176 = some c80) (h28 : E.pure 41 = some F28) : PureFn P E 176 F80 := by
  refine PureFn.of B.m B.T B.Q B.P fun vs r hF => ?_
  unfold F80 at hF
  split at hF
  · obtain ⟨h0, hr⟩ := onlyIf_some hF
    rename_i a
    simp only [Option.some.injEq] at hr; subst hr
    exact ⟨a.length + 2, _, ev80 E h h28 a h0 _ (by omega), .inl rfl⟩
  · cases hF

end Go.Ev


set_option linter.unusedSimpArgs false
set_option linter.unusedVariables false
namespace Go.Ev
open Go.Proofs
variable {P : Program} {E : Env}

theorem p1084 (B : Base P E) (h : E.code 59 = some c1084) : PureFn P E 59 F1084 := by
  refine PureFn.of B.m B.T B.Q B.P fun vs r hF => ?_
  unfold F1084 at hF
  split at hF
  · rename_i l
    obtain ⟨⟨h1, h2⟩, hr⟩ := onlyIf_some hF
    simp only [Option.some.injEq] at hr; subst hr
    refine ⟨l.length + 1, _, ?_, .inl rfl⟩
    have := ev1084 E h (l.map unrow) (by simpa using h2) (l.length + 1) (by simp)
    rw [← h1] at this
    exact this
  · cases hF

def F8x : List SV → Option AV
  | [.str s] => some (.sv (.bool true))
  | _ => none

end Go.Ev


set_option linter.unusedSimpArgs false
set_option linter.unusedVariables false
namespace Go.Ev
open Go.Proofs
variable {P : Program} {E : Env}

theorem p1080 (B : Base P E) (h : E.code 55 = some c1080) : PureFn P E 55 F1080 := by
  refine PureFn.of B.m B.T B.Q B.P fun vs r hF => ?_
  unfold F1080 at hF
  split at hF
  · rename_i l
    obtain ⟨h1, hr⟩ := onlyIf_some hF
    simp only [Option.some.injEq] at hr; subst hr
    refine ⟨l.length + 1, _, ?_, .inl rfl⟩
    have := ev1080 E h (l.map unstr) (l.length + 1) (.inl (by simp))
    rw [← h1] at this
    exact this
  · cases hF

theorem p1035 (B : Base P E) (h : E.code 21 = some c1035) (h80 : E.pure 55 = some F1080) : PureFn P E 21 F1035 := by
  refine PureFn.of B.m B.T B.Q B.P fun vs r hF => ?_
  unfold F1035 at hF
  split at hF
  · rename_i s ns ss
    obtain ⟨h1, hr⟩ := onlyIf_some hF
    simp only [Option.some.injEq] at hr; subst hr
    refine ⟨1, _, ?_, .inl rfl⟩
    have := ev1035 E h h80 (unrow (.agg [.str s, .sl ns, .sl ss])) 1
    rw [show SV.agg [.str (unrow (.agg [.str s, .sl ns, .sl ss])).name, .sl (u64s (unrow (.agg [.str s, .sl ns, .sl ss])).N), .sl (strs (unrow (.agg [.str s, .sl ns, .sl ss])).S)] = (unrow (.agg [.str s, .sl ns, .sl ss])).sv from rfl, ← h1] at this
    exact this
  · cases hF

theorem p1015 (B : Base P E) (h : E.code 9 = some c1015) (h35 : E.pure 21 = some F1035) : PureFn P E 9 F1015 := by
  refine PureFn.of B.m B.T B.Q B.P fun vs r hF => ?_
  unfold F1015 at hF
  split at hF
  · rename_i l
    obtain ⟨h1, hr⟩ := onlyIf_some hF
    simp only [Option.some.injEq] at hr; subst hr
    refine ⟨l.length + 1, _, ?_, .inl rfl⟩
    have := ev1015 E h h35 (l.map unrow) (l.length + 1) (.inl (by simp))
    rw [← h1] at this
    exact this
  · cases hF

end Go.Ev
