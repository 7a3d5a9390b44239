/- The table of functions, entry by entry: numbers, texts, lists. -/
/- The table of functions, entry by entry: cgroups. -/
import Derived.Test.YtabmfgoghdokbaaGreatDoorFE
set_option linter.unusedSimpArgs false
set_option linter.unusedVariables false
namespace Go.Ev
open Go.Proofs

/-- What every entry rests on. -/
structure Base (P : Program) (E : Env) : Prop where
  m : P.follows .mixedOrders = true
  T : CodeT P E
  Q : QuietOK P E
  P : PureOK P E

variable {P : Program} {E : Env}

theorem p134 (B : Base P E) (h : E.code 134 = some c134) : PureFn P E 134 F134 := by
  refine PureFn.of B.m B.T B.Q B.P fun vs r hF => ?_
  unfold F134 at hF
  split at hF
  · obtain ⟨⟨h0, h1⟩, hr⟩ := onlyIf_some hF
    rename_i c
    obtain ⟨k, rfl⟩ := Int.eq_ofNat_of_zero_le h0
    simp only [Option.some.injEq, Int.toNat_natCast] at hr; subst hr
    exact ⟨1, _, ev134 E h 1 k (by omega), .inl rfl⟩
  · cases hF

theorem p123 (B : Base P E) (h : E.code 123 = some c123) (h134 : E.pure 134 = some F134) : PureFn P E 123 F123 := by
  refine PureFn.of B.m B.T B.Q B.P fun vs r hF => ?_
  unfold F123 at hF
  split at hF
  · obtain ⟨⟨h0, rfl⟩, hr⟩ := onlyIf_some hF
    rename_i s
    simp only [Option.some.injEq] at hr; subst hr
    exact ⟨s.length + 1, _, ev123 E h h134 s h0 _ (by omega), .inl rfl⟩
  · cases hF

theorem p81 (B : Base P E) (h : E.code 81 = some c81) (h123 : E.pure 123 = some F123) : PureFn P E 81 F81 := by
  refine PureFn.of B.m B.T B.Q B.P fun vs r hF => ?_
  unfold F81 at hF
  split at hF
  · obtain ⟨h0, hr⟩ := onlyIf_some hF
    rename_i s
    simp only [Option.some.injEq] at hr; subst hr
    exact ⟨1, _, ev81 E h h123 s h0 _, .inl rfl⟩
  · cases hF

theorem p97 (B : Base P E) (h : E.code 97 = some c97) : PureFn P E 97 F97 := by
  refine PureFn.of_rec size97 B.m B.T B.Q B.P fun m vs r hF hs => ?_
  unfold F97 at hF
  split at hF
  · obtain ⟨⟨h0, h1, rfl⟩, hr⟩ := onlyIf_some hF
    rename_i c
    obtain ⟨k, rfl⟩ := Int.eq_ofNat_of_zero_le h0
    simp only [Option.some.injEq, Int.toNat_natCast] at hr; subst hr
    simp only [size97, Int.toNat_natCast] at hs
    subst hs
    exact ⟨1, _, ev97 E h 1 k (by omega), .inl rfl⟩
  · cases hF

theorem p45 (B : Base P E) (h : E.code 45 = some c45) (h97 : E.pure 97 = some F97) : PureFn P E 45 F45 := by
  refine PureFn.of B.m B.T B.Q B.P fun vs r hF => ?_
  unfold F45 at hF
  split at hF
  · obtain ⟨⟨h0, h1⟩, hr⟩ := onlyIf_some hF
    rename_i c
    obtain ⟨k, rfl⟩ := Int.eq_ofNat_of_zero_le h0
    simp only [Option.some.injEq, Int.toNat_natCast] at hr; subst hr
    exact ⟨1, _, ev45 E h h97 1 k (by omega), .inl rfl⟩
  · cases hF

theorem p54 (B : Base P E) (h : E.code 54 = some c54) : PureFn P E 54 F54 := by
  refine PureFn.of B.m B.T B.Q B.P fun vs r hF => ?_
  unfold F54 at hF
  split at hF
  · obtain ⟨h0, hr⟩ := onlyIf_some hF
    rename_i s
    simp only [Option.some.injEq] at hr; subst hr
    exact ⟨s.length + 1, _, ev54 E h s h0 _ (by omega), .inl rfl⟩
  · cases hF

theorem p78 (B : Base P E) (h : E.code 78 = some c78) : PureFn P E 78 F78 := by
  refine PureFn.of B.m B.T B.Q B.P fun vs r hF => ?_
  unfold F78 at hF
  split at hF
  · obtain ⟨h0, hr⟩ := onlyIf_some hF
    rename_i s
    simp only [Option.some.injEq] at hr; subst hr
    exact ⟨s.length + 1, _, ev78 E h s h0 _ (by omega), .inl rfl⟩
  · cases hF

theorem p55 (B : Base P E) (h : E.code 55 = some c55) : PureFn P E 55 F55 := by
  refine PureFn.of B.m B.T B.Q B.P fun vs r hF => ?_
  unfold F55 at hF
  split at hF
  · rename_i s ns ss a b
    simp only [Option.some.injEq] at hF; subst hF
    exact ⟨1, _, ev55 E h s ns ss a b 1, .inl rfl⟩
  · cases hF

theorem p57 (B : Base P E) (h : E.code 57 = some c57) : PureFn P E 57 F57 := by
  refine PureFn.of B.m B.T B.Q B.P fun vs r hF => ?_
  unfold F57 at hF
  split at hF
  · obtain ⟨⟨h0, h1, h2⟩, hr⟩ := onlyIf_some hF
    rename_i a l
    obtain ⟨k, rfl⟩ := Int.eq_ofNat_of_zero_le h0
    simp only [Option.some.injEq, Int.toNat_natCast] at hr; subst hr
    rw [h1]
    have := ev57 E h k (l.map unint) (by simpa using h2) (l.length + 1) (by simp)
    rw [← h1] at this ⊢
    exact ⟨_, _, this, .inl rfl⟩
  · cases hF

theorem p122 (B : Base P E) (h : E.code 122 = some c122) : PureFn P E 122 F122 := by
  refine PureFn.of B.m B.T B.Q B.P fun vs r hF => ?_
  unfold F122 at hF
  split at hF
  · obtain ⟨⟨h0, h1, h2⟩, hr⟩ := onlyIf_some hF
    rename_i l b
    simp only [Option.some.injEq] at hr; subst hr
    have := ev122 E h b (l.map unstr) (by simpa using h1) h2 (l.length + 2) (by simp)
    rw [← h0] at this
    exact ⟨_, _, this, .inl rfl⟩
  · cases hF

theorem p82 (B : Base P E) (h : E.code 82 = some c82) (h45 : E.pure 45 = some F45) (h122 : E.pure 122 = some F122) : PureFn P E 82 F82 := by
  refine PureFn.of B.m B.T B.Q B.P fun vs r hF => ?_
  unfold F82 at hF
  split at hF
  · obtain ⟨⟨h0, h1, h2, h3⟩, hr⟩ := onlyIf_some hF
    rename_i l b
    simp only [Option.some.injEq] at hr; subst hr
    have := ev82 E h h45 h122 b (l.map unint) (by simpa using h1) h2 h3 (l.length + 1) (by simp)
    rw [← h0] at this
    exact ⟨_, _, this, .inl rfl⟩
  · cases hF

theorem p76 (B : Base P E) (h : E.code 76 = some c76) : PureFn P E 76 F76 := by
  refine PureFn.of B.m B.T B.Q B.P fun vs r hF => ?_
  unfold F76 at hF
  split at hF
  · obtain ⟨h0, hr⟩ := onlyIf_some hF
    rename_i s w
    simp only [Option.some.injEq] at hr; subst hr
    exact ⟨1, _, ev76 E h s w h0 1, .inl rfl⟩
  · cases hF

theorem p77 (B : Base P E) (h : E.code 77 = some c77) (h81 : E.pure 81 = some F81) (h45 : E.pure 45 = some F45) : PureFn P E 77 F77 := by
  refine PureFn.of B.m B.T B.Q B.P fun vs r hF => ?_
  unfold F77 at hF
  split at hF
  · obtain ⟨⟨h0, h1, h2⟩, hr⟩ := onlyIf_some hF
    rename_i l
    simp only [Option.some.injEq] at hr; subst hr
    have := ev77 E h h81 h45 (l.map unstr) (by simpa using h1) h2 (l.length + 1) (by simp)
    rw [← h0] at this
    exact ⟨_, _, this, .inl rfl⟩
  · cases hF

theorem p28 (B : Base P E) (h : E.code 28 = some c28) : PureFn P E 28 F28 := by
  refine PureFn.of B.m B.T B.Q B.P fun vs r hF => ?_
  unfold F28 at hF
  split at hF
  · obtain ⟨h0, hr⟩ := onlyIf_some hF
    rename_i s
    simp only [Option.some.injEq] at hr; subst hr
    obtain ⟨r, h1, h2⟩ := ev28 E h s h0 (s.length + 1) (by omega)
    exact ⟨_, r, h1, .inr ⟨_, rfl, h2⟩⟩
  · cases hF

theorem p52 (B : Base P E) (h : E.code 52 = some c52) : PureFn P E 52 F52 := by
  refine PureFn.of B.m B.T B.Q B.P fun vs r hF => ?_
  unfold F52 at hF
  split at hF
  · obtain ⟨h0, hr⟩ := onlyIf_some hF
    rename_i s
    simp only [Option.some.injEq] at hr; subst hr
    obtain ⟨r, h1, h2⟩ := ev52 E h s h0 (s.length + 1) (by omega)
    exact ⟨_, r, h1, .inr ⟨_, rfl, h2⟩⟩
  · cases hF

theorem p29 (B : Base P E) (h : E.code 29 = some c29) (h52 : E.pure 52 = some F52) (h76 : E.pure 76 = some F76) (h77 : E.pure 77 = some F77) : PureFn P E 29 F29 := by
  refine PureFn.of B.m B.T B.Q B.P fun vs r hF => ?_
  unfold F29 at hF
  split at hF
  · obtain ⟨⟨h0, h1, h2⟩, hr⟩ := onlyIf_some hF
    rename_i l
    simp only [Option.some.injEq] at hr; subst hr
    have := ev29 E h h52 h76 h77 (l.map unstr) (by simpa using h1) h2 (l.length + 1) (by simp)
    rw [← h0] at this
    exact ⟨_, _, this, .inl rfl⟩
  · cases hF

theorem p33 (B : Base P E) (h : E.code 33 = some c33) : PureFn P E 33 F33 := by
  refine PureFn.of B.m B.T B.Q B.P fun vs r hF => ?_
  unfold F33 at hF
  split at hF
  · rename_i a b
    simp only [Option.some.injEq] at hF; subst hF
    exact ⟨1, _, ev33 E h a b 1, .inl rfl⟩
  · cases hF

theorem p34 (B : Base P E) (h : E.code 34 = some c34) : PureFn P E 34 F34 := by
  refine PureFn.of B.m B.T B.Q B.P fun vs r hF => ?_
  unfold F34 at hF
  split at hF
  · rename_i a b
    simp only [Option.some.injEq] at hF; subst hF
    exact ⟨1, _, ev34 E h a b 1, .inl rfl⟩
  · cases hF

theorem p36 (B : Base P E) (h : E.code 36 = some c36) : PureFn P E 36 F36 := by
  refine PureFn.of B.m B.T B.Q B.P fun vs r hF => ?_
  unfold F36 at hF
  split at hF
  · rename_i a b
    simp only [Option.some.injEq] at hF; subst hF
    exact ⟨1, _, ev36 E h a b 1, .inl rfl⟩
  · cases hF

theorem p66 (B : Base P E) (h : E.code 66 = some c66) : PureFn P E 66 F66 := by
  refine PureFn.of B.m B.T B.Q B.P fun vs r hF => ?_
  unfold F66 at hF
  split at hF
  · rename_i a b
    simp only [Option.some.injEq] at hF; subst hF
    exact ⟨1, _, ev66 E h a b 1, .inl rfl⟩
  · cases hF

theorem p38 (B : Base P E) (h : E.code 38 = some c38) : PureFn P E 38 F38 := by
  refine PureFn.of B.m B.T B.Q B.P fun vs r hF => ?_
  unfold F38 at hF
  split at hF
  · rename_i a
    simp only [Option.some.injEq] at hF; subst hF
    exact ⟨1, _, ev38 E h a 1, .inl rfl⟩
  · cases hF

theorem p85 (B : Base P E) (h : E.code 85 = some c85) : PureFn P E 85 F85 := by
  refine PureFn.of B.m B.T B.Q B.P fun vs r hF => ?_
  unfold F85 at hF
  split at hF
  · rename_i a b
    simp only [Option.some.injEq] at hF; subst hF
    exact ⟨1, _, ev85 E h a b 1, .inl rfl⟩
  · cases hF

theorem p99 (B : Base P E) (h : E.code 99 = some c99) : PureFn P E 99 F99 := by
  refine PureFn.of B.m B.T B.Q B.P fun vs r hF => ?_
  unfold F99 at hF
  split at hF
  · obtain ⟨h0, hr⟩ := onlyIf_some hF
    rename_i s
    simp only [Option.some.injEq] at hr; subst hr
    exact ⟨1, _, ev99 E h s h0 1, .inl rfl⟩
  · cases hF

theorem p144 (B : Base P E) (h : E.code 144 = some c144) : PureFn P E 144 F144 := by
  refine PureFn.of B.m B.T B.Q B.P fun vs r hF => ?_
  unfold F144 at hF
  split at hF
  · rename_i a b
    simp only [Option.some.injEq] at hF; subst hF
    exact ⟨1, _, ev144 E h 1 a b, .inl rfl⟩
  · cases hF

theorem p130 (B : Base P E) (h : E.code 130 = some c130) (h144 : E.pure 144 = some F144) : PureFn P E 130 F130 := by
  refine PureFn.of B.m B.T B.Q B.P fun vs r hF => ?_
  unfold F130 at hF
  split at hF
  · rename_i a b
    simp only [Option.some.injEq] at hF; subst hF
    exact ⟨1, _, ev130 E h h144 1 a b, .inl rfl⟩
  · cases hF

theorem p127 (B : Base P E) (h : E.code 127 = some c127) (hT : SpT E) : PureFn P E 127 F127 := by
  refine PureFn.of B.m B.T B.Q B.P fun vs r hF => ?_
  unfold F127 at hF
  split at hF
  · obtain ⟨⟨h0, h1⟩, hr⟩ := onlyIf_some hF
    rename_i s
    simp only [Option.some.injEq] at hr; subst hr
    exact ⟨s.length + 1, _, ev127 E h hT s h0 h1 _ (by omega), .inl rfl⟩
  · cases hF

theorem p149 (B : Base P E) (h : E.code 149 = some c149) : PureFn P E 149 F149 := by
  refine PureFn.of B.m B.T B.Q B.P fun vs r hF => ?_
  unfold F149 at hF
  split at hF
  · obtain ⟨⟨h0, h1, h2⟩, hr⟩ := onlyIf_some hF
    rename_i s
    simp only [Option.some.injEq] at hr; subst hr
    exact ⟨s.length + 1, _, ev149 E h s h0 h1 h2 _ (by omega), .inl rfl⟩
  · cases hF

theorem p143 (B : Base P E) (h : E.code 143 = some c143) (h149 : E.pure 149 = some F149) : PureFn P E 143 F143 := by
  refine PureFn.of B.m B.T B.Q B.P fun vs r hF => ?_
  unfold F143 at hF
  split at hF
  · obtain ⟨⟨h0, h1, h2⟩, hr⟩ := onlyIf_some hF
    rename_i s
    simp only [Option.some.injEq] at hr; subst hr
    exact ⟨1, _, ev143 E h h149 s h0 h1 h2 _, .inl rfl⟩
  · cases hF

end Go.Ev

set_option linter.unusedSimpArgs false
set_option linter.unusedVariables false
namespace Go.Ev
open Go.Proofs
variable {P : Program} {E : Env}

theorem p67 (B : Base P E) (h : E.code 67 = some c67) (h54 : E.pure 54 = some F54) (h55 : E.pure 55 = some F55) (h57 : E.pure 57 = some F57) (h82 : E.pure 82 = some F82) : PureFn P E 67 F67 := by
  refine PureFn.of B.m B.T B.Q B.P fun vs r hF => ?_
  unfold F67 at hF
  split at hF
  · obtain ⟨⟨h0, h1, h2, h3⟩, hr⟩ := onlyIf_some hF
    rename_i l
    simp only [Option.some.injEq] at hr; subst hr
    have := ev67 E h h54 h55 h57 h82 (l.map unrow) h1 h2 h3 (l.length + 1) (by simp)
    rw [← h0] at this
    exact ⟨_, _, this, .inl rfl⟩
  · cases hF

theorem p31 (B : Base P E) (h : E.code 31 = some c31) (h78 : E.pure 78 = some F78) (h67 : E.pure 67 = some F67) : PureFn P E 31 F31 := by
  refine PureFn.of B.m B.T B.Q B.P fun vs r hF => ?_
  unfold F31 at hF
  split at hF
  · obtain ⟨⟨h0, h1, h2⟩, hr⟩ := onlyIf_some hF
    rename_i text rows ok
    simp only [Option.some.injEq] at hr; subst hr
    have := ev31c E h h78 h67 text h0 (rows.map unrow) h2 ok 1
    rw [← h1] at this
    exact ⟨_, _, this, .inl rfl⟩
  · cases hF

theorem p22 (B : Base P E) (h : E.code 22 = some c22) (h28 : E.pure 28 = some F28) (h29 : E.pure 29 = some F29) (h31 : E.pure 31 = some F31) : PureFn P E 22 F22 := by
  refine PureFn.of B.m B.T B.Q B.P fun vs r hF => ?_
  unfold F22 at hF
  split at hF
  · obtain ⟨h0, hr⟩ := onlyIf_some hF
    rename_i s
    simp only [Option.some.injEq] at hr; subst hr
    exact ⟨1, _, ev22 E h h28 h29 h31 s h0 1, .inl rfl⟩
  · cases hF

theorem p23 (B : Base P E) (h : E.code 23 = some c23) (h67 : E.pure 67 = some F67) (h33 : E.pure 33 = some F33) (h34 : E.pure 34 = some F34) (h36 : E.pure 36 = some F36) (h66 : E.pure 66 = some F66) : PureFn P E 23 F23 := by
  refine PureFn.of B.m B.T B.Q B.P fun vs r hF => ?_
  unfold F23 at hF
  split at hF
  · obtain ⟨⟨h0, h1, h2, h3⟩, hr⟩ := onlyIf_some hF
    rename_i l
    simp only [Option.some.injEq] at hr; subst hr
    have := ev23 E h h67 h33 h34 h36 h66 (l.map unrow) h1 (by simpa using h2) h3 (l.length + 1) (by simp)
    rw [← h0] at this
    exact ⟨_, _, this, .inl rfl⟩
  · cases hF

theorem p131 (B : Base P E) (h : E.code 131 = some c131) (h127 : E.pure 127 = some F127) (h143 : E.pure 143 = some F143) : PureFn P E 131 F131 := by
  refine PureFn.of B.m B.T B.Q B.P fun vs r hF => ?_
  unfold F131 at hF
  split at hF
  · rename_i s
    split at hF
    · rename_i w x y z hw
      obtain ⟨⟨h0, h1, h2, h3, h4⟩, hr⟩ := onlyIf_some hF
      simp only [Option.some.injEq] at hr; subst hr
      exact ⟨1, _, ev131 E h h127 h143 s w x y z h0 h1 hw h2 h3 h4 1, .inl rfl⟩
    · cases hF
  · cases hF

theorem p116 (B : Base P E) (h : E.code 116 = some c116) (h87 : E.code 87 = some c87) (h88 : E.code 88 = some c88) (h90 : E.code 90 = some c90) (h128 : E.code 128 = some c128) (hp87 : E.pure 87 = none) (hp88 : E.pure 88 = none) (hp90 : E.pure 90 = none) (hp128 : E.pure 128 = none)
    (h130 : E.pure 130 = some F130) (h131 : E.pure 131 = some F131) : PureFn P E 116 F116 := by
  refine PureFn.of B.m B.T B.Q B.P fun vs r hF => ?_
  unfold F116 at hF
  split at hF
  · rename_i bs
    split at hF
    · rename_i s hsv
      split at hF
      · rename_i rs hr
        obtain ⟨⟨h0, rfl⟩, hx⟩ := onlyIf_some hF
        simp only [Option.some.injEq] at hx; subst hx
        exact ⟨s.length + 2, _, ev116 E h h87 h88 h90 h128 hp87 hp88 hp90 hp128 h130 h131 s rs hr h0 (s.length + 1) (by omega), .inl rfl⟩
      · cases hF
    · cases hF
  · cases hF

theorem p69 (B : Base P E) (h : E.code 69 = some c69) (h85 : E.pure 85 = some F85) (h99 : E.pure 99 = some F99) (h116 : E.pure 116 = some F116) : PureFn P E 69 F69 := by
  refine PureFn.of B.m B.T B.Q B.P fun vs r hF => ?_
  unfold F69 at hF
  split at hF
  · rename_i s
    split at hF
    · rename_i rs hr
      obtain ⟨h0, hx⟩ := onlyIf_some hF
      simp only [Option.some.injEq] at hx; subst hx
      exact ⟨1, _, ev69 E h h85 h99 h116 s rs hr h0 1, .inl rfl⟩
    · cases hF
  · cases hF

theorem p73 (B : Base P E) (h : E.code 73 = some c73) : PureFn P E 73 F73 := by
  refine PureFn.of B.m B.T B.Q B.P fun vs r hF => ?_
  unfold F73 at hF
  split at hF
  · rename_i n w a b c
    simp only [Option.some.injEq] at hF; subst hF
    exact ⟨1, _, ev73 E h n w a b c 1, .inl rfl⟩
  · cases hF

theorem p72 (B : Base P E) (h : E.code 72 = some c72) (h73 : E.pure 73 = some F73) : PureFn P E 72 F72 := by
  refine PureFn.of B.m B.T B.Q B.P fun vs r hF => ?_
  unfold F72 at hF
  split at hF
  · rename_i w a b c
    simp only [Option.some.injEq] at hF; subst hF
    exact ⟨1, _, ev72 E h h73 w a b c 1, .inl rfl⟩
  · cases hF

theorem p71 (B : Base P E) (h : E.code 71 = some c71) (h72 : E.pure 72 = some F72) : PureFn P E 71 F71 := by
  refine PureFn.of B.m B.T B.Q B.P fun vs r hF => ?_
  unfold F71 at hF
  split at hF
  · obtain ⟨⟨h0, h1, h2⟩, hr⟩ := onlyIf_some hF
    rename_i l
    simp only [Option.some.injEq] at hr; subst hr
    have := ev71 E h h72 (l.map uncg) h1 (by simpa using h2) (l.length + 1) (by simp)
    rw [← h0] at this
    exact ⟨_, _, this, .inl rfl⟩
  · cases hF

theorem p70 (B : Base P E) (h : E.code 70 = some c70) (h71 : E.pure 71 = some F71) : PureFn P E 70 F70 := by
  refine PureFn.of B.m B.T B.Q B.P fun vs r hF => ?_
  unfold F70 at hF
  split at hF
  · obtain ⟨⟨h0, h1, h2⟩, hr⟩ := onlyIf_some hF
    rename_i l
    simp only [Option.some.injEq] at hr; subst hr
    have := ev70 E h h71 (l.map uncg) h1 (by simpa using h2) 1
    rw [← h0] at this
    exact ⟨_, _, this, .inl rfl⟩
  · cases hF

theorem p68 (B : Base P E) (h : E.code 68 = some c68) (hq : E.quiet 115 = true) (h69 : E.pure 69 = some F69) (h70 : E.pure 70 = some F70) : PureFn P E 68 F68 := by
  refine PureFn.of B.m B.T B.Q B.P fun vs r hF => ?_
  unfold F68 at hF
  split at hF
  · rename_i s
    split at hF
    · rename_i rs hr
      obtain ⟨h0, hx⟩ := onlyIf_some hF
      simp only [Option.some.injEq] at hx; subst hx
      exact ⟨1, _, ev68 E h hq h69 h70 s rs hr h0 1, .inl rfl⟩
    · cases hF
  · cases hF

theorem p24 (B : Base P E) (h : E.code 24 = some c24) (h38 : E.pure 38 = some F38) (h68 : E.pure 68 = some F68) : PureFn P E 24 F24 := by
  refine PureFn.of B.m B.T B.Q B.P fun vs r hF => ?_
  unfold F24 at hF
  split at hF
  · rename_i s
    split at hF
    · rename_i rs hr
      obtain ⟨h0, hx⟩ := onlyIf_some hF
      simp only [Option.some.injEq] at hx; subst hx
      exact ⟨1, _, ev24 E h h38 h68 s rs hr h0 1, .inl rfl⟩
    · cases hF
  · cases hF

theorem p9cg (B : Base P E) (h : E.code 9 = some c9) (h22 : E.pure 22 = some F22) (h23 : E.pure 23 = some F23) (h24 : E.pure 24 = some F24) (h25 : E.pure 25 = some F25) (h26 : E.pure 26 = some F26) (h27 : E.pure 27 = some F27) : PureFn P E 9 F9cg := by
  refine PureFn.of B.m B.T B.Q B.P fun vs r hF => ?_
  unfold F9cg at hF
  split at hF
  · rename_i s
    simp only [Option.some.injEq] at hF; subst hF
    exact ⟨1, _, ev9_cg E h h22 h23 h24 h25 h26 h27 s 1, .inl rfl⟩
  · cases hF

theorem p8 (B : Base P E) (h : E.code 8 = some c8) (h9 : E.pure 9 = some F9cg) : PureFn P E 8 F8 := by
  refine PureFn.of B.m B.T B.Q B.P fun vs r hF => ?_
  unfold F8 at hF
  split at hF
  · rename_i s
    simp only [Option.some.injEq] at hF; subst hF
    exact ⟨1, _, ev8_call E h F9cg h9 s rfl 1, .inl rfl⟩
  · cases hF

end Go.Ev
