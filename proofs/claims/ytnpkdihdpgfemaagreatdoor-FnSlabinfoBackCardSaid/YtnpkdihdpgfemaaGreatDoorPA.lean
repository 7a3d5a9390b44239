/- The table of functions, entry by entry: numbers, texts, lists. -/
/- The table of functions, entry by entry: swaps. -/
/- Entries of the counters of transformations. -/
/- Entries of the counters of transformations: what is written is read. -/
import Derived.Test.YtnpkdihdpgfemaaGreatDoorXC
set_option linter.unusedSimpArgs false
set_option linter.unusedVariables false
namespace Go.Ev
open Go.Proofs

/-- What every entry rests on. -/
structure Base (P : Program) (E : Env) : Prop where
  m : P.follows .mixedOrders = true
  T : CodeT P E
  Q : QuietOK P E
  P : PureOK P E

variable {P : Program} {E : Env}

theorem p134 (B : Base P E) (h : E.code 111 = some c134) : PureFn P E 111 F134 := by
  refine PureFn.of B.m B.T B.Q B.P fun vs r hF => ?_
  unfold F134 at hF
  split at hF
  · obtain ⟨⟨h0, h1⟩, hr⟩ := onlyIf_some hF
    rename_i c
    obtain ⟨k, rfl⟩ := Int.eq_ofNat_of_zero_le h0
    simp only [Option.some.injEq, Int.toNat_natCast] at hr; subst hr
    exact ⟨1, _, ev134 E h 1 k (by omega), .inl rfl⟩
  · cases hF

theorem p123 (B : Base P E) (h : E.code 126 = some c123) (h134 : E.pure 111 = some F134) : PureFn P E 126 F123 := by
  refine PureFn.of B.m B.T B.Q B.P fun vs r hF => ?_
  unfold F123 at hF
  split at hF
  · obtain ⟨⟨h0, rfl⟩, hr⟩ := onlyIf_some hF
    rename_i s
    simp only [Option.some.injEq] at hr; subst hr
    exact ⟨s.length + 1, _, ev123 E h h134 s h0 _ (by omega), .inl rfl⟩
  · cases hF

theorem p81 (B : Base P E) (h : E.code 108 = some c81) (h123 : E.pure 126 = some F123) : PureFn P E 108 F81 := by
  refine PureFn.of B.m B.T B.Q B.P fun vs r hF => ?_
  unfold F81 at hF
  split at hF
  · obtain ⟨h0, hr⟩ := onlyIf_some hF
    rename_i s
    simp only [Option.some.injEq] at hr; subst hr
    exact ⟨1, _, ev81 E h h123 s h0 _, .inl rfl⟩
  · cases hF

theorem p97 (B : Base P E) (h : E.code 136 = some c97) : PureFn P E 136 F97 := by
  refine PureFn.of_rec size97 B.m B.T B.Q B.P fun m vs r hF hs => ?_
  unfold F97 at hF
  split at hF
  · obtain ⟨⟨h0, h1, rfl⟩, hr⟩ := onlyIf_some hF
    rename_i c
    obtain ⟨k, rfl⟩ := Int.eq_ofNat_of_zero_le h0
    simp only [Option.some.injEq, Int.toNat_natCast] at hr; subst hr
    simp only [size97, Int.toNat_natCast] at hs
    subst hs
    exact ⟨1, _, ev97 E h 1 k (by omega), .inl rfl⟩
  · cases hF

theorem p45 (B : Base P E) (h : E.code 85 = some c45) (h97 : E.pure 136 = some F97) : PureFn P E 85 F45 := by
  refine PureFn.of B.m B.T B.Q B.P fun vs r hF => ?_
  unfold F45 at hF
  split at hF
  · obtain ⟨⟨h0, h1⟩, hr⟩ := onlyIf_some hF
    rename_i c
    obtain ⟨k, rfl⟩ := Int.eq_ofNat_of_zero_le h0
    simp only [Option.some.injEq, Int.toNat_natCast] at hr; subst hr
    exact ⟨1, _, ev45 E h h97 1 k (by omega), .inl rfl⟩
  · cases hF

theorem p54 (B : Base P E) (h : E.code 51 = some c54) : PureFn P E 51 F54 := by
  refine PureFn.of B.m B.T B.Q B.P fun vs r hF => ?_
  unfold F54 at hF
  split at hF
  · obtain ⟨h0, hr⟩ := onlyIf_some hF
    rename_i s
    simp only [Option.some.injEq] at hr; subst hr
    exact ⟨s.length + 1, _, ev54 E h s h0 _ (by omega), .inl rfl⟩
  · cases hF

theorem p78 (B : Base P E) (h : E.code 98 = some c78) : PureFn P E 98 F78 := by
  refine PureFn.of B.m B.T B.Q B.P fun vs r hF => ?_
  unfold F78 at hF
  split at hF
  · obtain ⟨h0, hr⟩ := onlyIf_some hF
    rename_i s
    simp only [Option.some.injEq] at hr; subst hr
    exact ⟨s.length + 1, _, ev78 E h s h0 _ (by omega), .inl rfl⟩
  · cases hF

theorem p55 (B : Base P E) (h : E.code 53 = some c55) : PureFn P E 53 F55 := by
  refine PureFn.of B.m B.T B.Q B.P fun vs r hF => ?_
  unfold F55 at hF
  split at hF
  · rename_i s ns ss a b
    simp only [Option.some.injEq] at hF; subst hF
    exact ⟨1, _, ev55 E h s ns ss a b 1, .inl rfl⟩
  · cases hF

theorem p57 (B : Base P E) (h : E.code 54 = some c57) : PureFn P E 54 F57 := by
  refine PureFn.of B.m B.T B.Q B.P fun vs r hF => ?_
  unfold F57 at hF
  split at hF
  · obtain ⟨⟨h0, h1, h2⟩, hr⟩ := onlyIf_some hF
    rename_i a l
    obtain ⟨k, rfl⟩ := Int.eq_ofNat_of_zero_le h0
    simp only [Option.some.injEq, Int.toNat_natCast] at hr; subst hr
    rw [h1]
    have := ev57 E h k (l.map unint) (by simpa using h2) (l.length + 1) (by simp)
    rw [← h1] at this ⊢
    exact ⟨_, _, this, .inl rfl⟩
  · cases hF

theorem p122 (B : Base P E) (h : E.code 99 = some c122) : PureFn P E 99 F122 := by
  refine PureFn.of B.m B.T B.Q B.P fun vs r hF => ?_
  unfold F122 at hF
  split at hF
  · obtain ⟨⟨h0, h1, h2⟩, hr⟩ := onlyIf_some hF
    rename_i l b
    simp only [Option.some.injEq] at hr; subst hr
    have := ev122 E h b (l.map unstr) (by simpa using h1) h2 (l.length + 2) (by simp)
    rw [← h0] at this
    exact ⟨_, _, this, .inl rfl⟩
  · cases hF

theorem p82 (B : Base P E) (h : E.code 56 = some c82) (h45 : E.pure 85 = some F45) (h122 : E.pure 99 = some F122) : PureFn P E 56 F82 := by
  refine PureFn.of B.m B.T B.Q B.P fun vs r hF => ?_
  unfold F82 at hF
  split at hF
  · obtain ⟨⟨h0, h1, h2, h3⟩, hr⟩ := onlyIf_some hF
    rename_i l b
    simp only [Option.some.injEq] at hr; subst hr
    have := ev82 E h h45 h122 b (l.map unint) (by simpa using h1) h2 h3 (l.length + 1) (by simp)
    rw [← h0] at this
    exact ⟨_, _, this, .inl rfl⟩
  · cases hF

theorem p76 (B : Base P E) (h : E.code 124 = some c76) : PureFn P E 124 F76 := by
  refine PureFn.of B.m B.T B.Q B.P fun vs r hF => ?_
  unfold F76 at hF
  split at hF
  · obtain ⟨h0, hr⟩ := onlyIf_some hF
    rename_i s w
    simp only [Option.some.injEq] at hr; subst hr
    exact ⟨1, _, ev76 E h s w h0 1, .inl rfl⟩
  · cases hF

theorem p77 (B : Base P E) (h : E.code 66 = some c77) (h81 : E.pure 108 = some F81) (h45 : E.pure 85 = some F45) : PureFn P E 66 F77 := by
  refine PureFn.of B.m B.T B.Q B.P fun vs r hF => ?_
  unfold F77 at hF
  split at hF
  · obtain ⟨⟨h0, h1, h2⟩, hr⟩ := onlyIf_some hF
    rename_i l
    simp only [Option.some.injEq] at hr; subst hr
    have := ev77 E h h81 h45 (l.map unstr) (by simpa using h1) h2 (l.length + 1) (by simp)
    rw [← h0] at this
    exact ⟨_, _, this, .inl rfl⟩
  · cases hF

theorem p28 (B : Base P E) (h : E.code 64 = some c28) : PureFn P E 64 F28 := by
  refine PureFn.of B.m B.T B.Q B.P fun vs r hF => ?_
  unfold F28 at hF
  split at hF
  · obtain ⟨h0, hr⟩ := onlyIf_some hF
    rename_i s
    simp only [Option.some.injEq] at hr; subst hr
    obtain ⟨r, h1, h2⟩ := ev28 E h s h0 (s.length + 1) (by omega)
    exact ⟨_, r, h1, .inr ⟨_, rfl, h2⟩⟩
  · cases hF

theorem p52 (B : Base P E) (h : E.code 65 = some c52) : PureFn P E 65 F52 := by
  refine PureFn.of B.m B.T B.Q B.P fun vs r hF => ?_
  unfold F52 at hF
  split at hF
  · obtain ⟨h0, hr⟩ := onlyIf_some hF
    rename_i s
    simp only [Option.some.injEq] at hr; subst hr
    obtain ⟨r, h1, h2⟩ := ev52 E h s h0 (s.length + 1) (by omega)
    exact ⟨_, r, h1, .inr ⟨_, rfl, h2⟩⟩
  · cases hF

theorem p33 (B : Base P E) (h : E.code 43 = some c33) : PureFn P E 43 F33 := by
  refine PureFn.of B.m B.T B.Q B.P fun vs r hF => ?_
  unfold F33 at hF
  split at hF
  · rename_i a b
    simp only [Option.some.injEq] at hF; subst hF
    exact ⟨1, _, ev33 E h a b 1, .inl rfl⟩
  · cases hF

theorem p34 (B : Base P E) (h : E.code 57 = some c34) : PureFn P E 57 F34 := by
  refine PureFn.of B.m B.T B.Q B.P fun vs r hF => ?_
  unfold F34 at hF
  split at hF
  · rename_i a b
    simp only [Option.some.injEq] at hF; subst hF
    exact ⟨1, _, ev34 E h a b 1, .inl rfl⟩
  · cases hF

theorem p36 (B : Base P E) (h : E.code 59 = some c36) : PureFn P E 59 F36 := by
  refine PureFn.of B.m B.T B.Q B.P fun vs r hF => ?_
  unfold F36 at hF
  split at hF
  · rename_i a b
    simp only [Option.some.injEq] at hF; subst hF
    exact ⟨1, _, ev36 E h a b 1, .inl rfl⟩
  · cases hF

theorem p66 (B : Base P E) (h : E.code 42 = some c66) : PureFn P E 42 F66 := by
  refine PureFn.of B.m B.T B.Q B.P fun vs r hF => ?_
  unfold F66 at hF
  split at hF
  · rename_i a b
    simp only [Option.some.injEq] at hF; subst hF
    exact ⟨1, _, ev66 E h a b 1, .inl rfl⟩
  · cases hF

theorem p38 (B : Base P E) (h : E.code 45 = some c38) : PureFn P E 45 F38 := by
  refine PureFn.of B.m B.T B.Q B.P fun vs r hF => ?_
  unfold F38 at hF
  split at hF
  · rename_i a
    simp only [Option.some.injEq] at hF; subst hF
    exact ⟨1, _, ev38 E h a 1, .inl rfl⟩
  · cases hF

theorem p85 (B : Base P E) (h : E.code 88 = some c85) : PureFn P E 88 F85 := by
  refine PureFn.of B.m B.T B.Q B.P fun vs r hF => ?_
  unfold F85 at hF
  split at hF
  · rename_i a b
    simp only [Option.some.injEq] at hF; subst hF
    exact ⟨1, _, ev85 E h a b 1, .inl rfl⟩
  · cases hF

theorem p99 (B : Base P E) (h : E.code 101 = some c99) : PureFn P E 101 F99 := by
  refine PureFn.of B.m B.T B.Q B.P fun vs r hF => ?_
  unfold F99 at hF
  split at hF
  · obtain ⟨h0, hr⟩ := onlyIf_some hF
    rename_i s
    simp only [Option.some.injEq] at hr; subst hr
    exact ⟨1, _, ev99 E h s h0 1, .inl rfl⟩
  · cases hF

theorem p127 (B : Base P E) (h : E.code 92 = some c127) (hT : SpT E) : PureFn P E 92 F127 := by
  refine PureFn.of B.m B.T B.Q B.P fun vs r hF => ?_
  unfold F127 at hF
  split at hF
  · obtain ⟨⟨h0, h1⟩, hr⟩ := onlyIf_some hF
    rename_i s
    simp only [Option.some.injEq] at hr; subst hr
    exact ⟨s.length + 1, _, ev127 E h hT s h0 h1 _ (by omega), .inl rfl⟩
  · cases hF

theorem p149 (B : Base P E) (h : E.code 139 = some c149) : PureFn P E 139 F149 := by
  refine PureFn.of B.m B.T B.Q B.P fun vs r hF => ?_
  unfold F149 at hF
  split at hF
  · obtain ⟨⟨h0, h1, h2⟩, hr⟩ := onlyIf_some hF
    rename_i s
    simp only [Option.some.injEq] at hr; subst hr
    exact ⟨s.length + 1, _, ev149 E h s h0 h1 h2 _ (by omega), .inl rfl⟩
  · cases hF

theorem p143 (B : Base P E) (h : E.code 95 = some c143) (h149 : E.pure 139 = some F149) : PureFn P E 95 F143 := by
  refine PureFn.of B.m B.T B.Q B.P fun vs r hF => ?_
  unfold F143 at hF
  split at hF
  · obtain ⟨⟨h0, h1, h2⟩, hr⟩ := onlyIf_some hF
    rename_i s
    simp only [Option.some.injEq] at hr; subst hr
    exact ⟨1, _, ev143 E h h149 s h0 h1 h2 _, .inl rfl⟩
  · cases hF

end Go.Ev


set_option linter.unusedSimpArgs false
set_option linter.unusedVariables false
namespace Go.Ev
open Go.Proofs
variable {P : Program} {E : Env}

theorem p44 (B : Base P E) (h : E.code 55 = some c44) : PureFn P E 55 F44 := by
  refine PureFn.of B.m B.T B.Q B.P fun vs r hF => ?_
  unfold F44 at hF
  split at hF
  · obtain ⟨⟨h0, h1, h2⟩, hr⟩ := onlyIf_some hF
    rename_i s n
    obtain ⟨k, rfl⟩ := Int.eq_ofNat_of_zero_le h0
    simp only [Option.some.injEq, Int.toNat_natCast] at hr; subst hr
    exact ⟨k + 1, _, ev44 E h s k (by omega) h2 _ (by omega), .inl rfl⟩
  · cases hF

theorem p30 (B : Base P E) (h : E.code 52 = some c30) : PureFn P E 52 F30 := by
  refine PureFn.of B.m B.T B.Q B.P fun vs r hF => ?_
  unfold F30 at hF
  split at hF
  · rename_i a b
    simp only [Option.some.injEq] at hF; subst hF
    exact ⟨1, _, ev30 E h 1 a b, .inl rfl⟩
  · cases hF

theorem p125 (B : Base P E) (h : E.code 163 = some c125) : PureFn P E 163 F125 := by
  refine PureFn.of B.m B.T B.Q B.P fun vs r hF => ?_
  unfold F125 at hF
  split at hF
  · obtain ⟨⟨rfl, rfl, h1, h2, h3, h4⟩, hr⟩ := onlyIf_some hF
    rename_i s
    simp only [Option.some.injEq] at hr; subst hr
    exact ⟨s.length + 1, _, ev125 E h s h1 h2 h3 h4 _ (by omega), .inl rfl⟩
  · cases hF

theorem p154 (B : Base P E) (h : E.code 150 = some c154) (h125 : E.pure 163 = some F125) : PureFn P E 150 F154 := by
  refine PureFn.of B.m B.T B.Q B.P fun vs r hF => ?_
  unfold F154 at hF
  split at hF
  · rename_i s b z
    split at hF
    · rename_i v hv
      obtain ⟨⟨rfl, rfl, h1⟩, hr⟩ := onlyIf_some hF
      simp only [Option.some.injEq] at hr; subst hr
      exact ⟨1, _, ev154 E h h125 s v hv h1 1, .inl rfl⟩
    · cases hF
  · cases hF

theorem p149s (B : Base P E) (h : E.code 139 = some c149) (h154 : E.pure 150 = some F154) : PureFn P E 139 F149s := by
  refine PureFn.of B.m B.T B.Q B.P fun vs r hF => ?_
  unfold F149s at hF
  split at hF
  · rename_i s
    split at hF
    · rename_i v hv
      obtain ⟨h1, hr⟩ := onlyIf_some hF
      simp only [Option.some.injEq] at hr; subst hr
      exact ⟨s.length + 1, _, ev149s E h h154 s v hv h1 _ (by omega), .inl rfl⟩
    · cases hF
  · cases hF

theorem p143s (B : Base P E) (h : E.code 95 = some c143) (h149 : E.pure 139 = some F149s) : PureFn P E 95 F143s := by
  refine PureFn.of B.m B.T B.Q B.P fun vs r hF => ?_
  unfold F143s at hF
  split at hF
  · rename_i s
    split at hF
    · rename_i v hv
      obtain ⟨h1, hr⟩ := onlyIf_some hF
      simp only [Option.some.injEq] at hr; subst hr
      exact ⟨1, _, ev143s E h h149 s v hv h1 1, .inl rfl⟩
    · cases hF
  · cases hF

end Go.Ev


set_option linter.unusedSimpArgs false
set_option linter.unusedVariables false
namespace Go.Ev
open Go.Proofs
variable {P : Program} {E : Env}

theorem p84 (B : Base P E) (h : E.code 87 = some c84) : PureFn P E 87 F84 := by
  refine PureFn.of B.m B.T B.Q B.P fun vs r hF => ?_
  unfold F84 at hF
  split at hF
  · simp only [Option.some.injEq] at hF; subst hF
    exact ⟨1, _, ev84 E h _ 1, .inl rfl⟩
  · cases hF

def F8x : List SV → Option AV
  | [.str s] => some (.sv (.bool true))
  | _ => none

end Go.Ev


set_option linter.unusedSimpArgs false
set_option linter.unusedVariables false
namespace Go.Ev
open Go.Proofs
variable {P : Program} {E : Env}

theorem p1080 (B : Base P E) (h : E.code 80 = some c1080) : PureFn P E 80 F1080 := by
  refine PureFn.of B.m B.T B.Q B.P fun vs r hF => ?_
  unfold F1080 at hF
  split at hF
  · rename_i l
    obtain ⟨h1, hr⟩ := onlyIf_some hF
    simp only [Option.some.injEq] at hr; subst hr
    refine ⟨l.length + 1, _, ?_, .inl rfl⟩
    have := ev1080 E h (l.map unstr) (l.length + 1) (.inl (by simp))
    rw [← h1] at this
    exact this
  · cases hF

theorem p1035 (B : Base P E) (h : E.code 35 = some c1035) (h80 : E.pure 80 = some F1080) : PureFn P E 35 F1035 := by
  refine PureFn.of B.m B.T B.Q B.P fun vs r hF => ?_
  unfold F1035 at hF
  split at hF
  · rename_i s ns ss
    obtain ⟨h1, hr⟩ := onlyIf_some hF
    simp only [Option.some.injEq] at hr; subst hr
    refine ⟨1, _, ?_, .inl rfl⟩
    have := ev1035 E h h80 (unrow (.agg [.str s, .sl ns, .sl ss])) 1
    rw [show SV.agg [.str (unrow (.agg [.str s, .sl ns, .sl ss])).name, .sl (u64s (unrow (.agg [.str s, .sl ns, .sl ss])).N), .sl (strs (unrow (.agg [.str s, .sl ns, .sl ss])).S)] = (unrow (.agg [.str s, .sl ns, .sl ss])).sv from rfl, ← h1] at this
    exact this
  · cases hF

theorem p1015 (B : Base P E) (h : E.code 15 = some c1015) (h35 : E.pure 35 = some F1035) : PureFn P E 15 F1015 := by
  refine PureFn.of B.m B.T B.Q B.P fun vs r hF => ?_
  unfold F1015 at hF
  split at hF
  · rename_i l
    obtain ⟨h1, hr⟩ := onlyIf_some hF
    simp only [Option.some.injEq] at hr; subst hr
    refine ⟨l.length + 1, _, ?_, .inl rfl⟩
    have := ev1015 E h h35 (l.map unrow) (l.length + 1) (.inl (by simp))
    rw [← h1] at this
    exact this
  · cases hF

end Go.Ev
