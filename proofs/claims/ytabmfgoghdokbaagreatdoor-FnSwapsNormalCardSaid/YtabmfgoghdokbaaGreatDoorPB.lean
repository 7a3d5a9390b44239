/- The table of functions, entry by entry: swaps. -/
import Derived.Test.YtabmfgoghdokbaaGreatDoorPA
import Derived.Test.YtabmfgoghdokbaaGreatDoorSC
set_option linter.unusedSimpArgs false
set_option linter.unusedVariables false
namespace Go.Ev
open Go.Proofs
variable {P : Program} {E : Env}

theorem p44 (B : Base P E) (h : E.code 44 = some c44) : PureFn P E 44 F44 := by
  refine PureFn.of B.m B.T B.Q B.P fun vs r hF => ?_
  unfold F44 at hF
  split at hF
  · obtain ⟨⟨h0, h1, h2⟩, hr⟩ := onlyIf_some hF
    rename_i s n
    obtain ⟨k, rfl⟩ := Int.eq_ofNat_of_zero_le h0
    simp only [Option.some.injEq, Int.toNat_natCast] at hr; subst hr
    exact ⟨k + 1, _, ev44 E h s k (by omega) h2 _ (by omega), .inl rfl⟩
  · cases hF

theorem p58 (B : Base P E) (h : E.code 58 = some c58) (h45 : E.pure 45 = some F45) : PureFn P E 58 F58 := by
  refine PureFn.of B.m B.T B.Q B.P fun vs r hF => ?_
  unfold F58 at hF
  split at hF
  · obtain ⟨⟨h0, h1⟩, hr⟩ := onlyIf_some hF
    rename_i n
    simp only [Option.some.injEq] at hr; subst hr
    exact ⟨1, _, ev58 E h h45 n h0 h1 1, .inl rfl⟩
  · cases hF

theorem p30 (B : Base P E) (h : E.code 30 = some c30) : PureFn P E 30 F30 := by
  refine PureFn.of B.m B.T B.Q B.P fun vs r hF => ?_
  unfold F30 at hF
  split at hF
  · rename_i a b
    simp only [Option.some.injEq] at hF; subst hF
    exact ⟨1, _, ev30 E h 1 a b, .inl rfl⟩
  · cases hF

theorem p56 (B : Base P E) (h : E.code 56 = some c56) (h54 : E.pure 54 = some F54) : PureFn P E 56 F56 := by
  refine PureFn.of B.m B.T B.Q B.P fun vs r hF => ?_
  unfold F56 at hF
  split at hF
  · obtain ⟨⟨h0, h1, h2⟩, hr⟩ := onlyIf_some hF
    rename_i l
    simp only [Option.some.injEq] at hr; subst hr
    have := ev56 E h h54 (l.map unstr) (by simpa using h1) h2 (l.length + 1) (by simp)
    rw [← h0] at this
    exact ⟨_, _, this, .inl rfl⟩
  · cases hF

theorem p112 (B : Base P E) (h : E.code 112 = some c112) (h30 : E.pure 30 = some F30) (h81 : E.pure 81 = some F81) : PureFn P E 112 F112 := by
  refine PureFn.of B.m B.T B.Q B.P fun vs r hF => ?_
  unfold F112 at hF
  split at hF
  · obtain ⟨⟨h0, h1⟩, hr⟩ := onlyIf_some hF
    rename_i c t
    simp only [Option.some.injEq] at hr; subst hr
    refine ⟨1, _, ev112 E h h30 h81 c h0 t h1 1, .inl ?_⟩
    cases negV t with
    | some m => rfl
    | none =>
      simp only
      cases numV 10 0 t with
      | none => rfl
      | some m => simp only; split <;> rfl
  · cases hF

theorem p53 (B : Base P E) (h : E.code 53 = some c53) (h30 : E.pure 30 = some F30) (h81 : E.pure 81 = some F81) (h112 : E.pure 112 = some F112) : PureFn P E 53 F53 := by
  refine PureFn.of B.m B.T B.Q B.P fun vs r hF => ?_
  unfold F53 at hF
  split at hF
  · obtain ⟨⟨h0, h1, h2⟩, hr⟩ := onlyIf_some hF
    rename_i l
    simp only [Option.some.injEq] at hr; subst hr
    have := ev53 E h h30 h81 h112 (l.map unstr) (by simpa using h1) h2 (l.length + 1) (by simp)
    rw [← h0] at this
    exact ⟨_, _, this, .inl rfl⟩
  · cases hF

theorem p125 (B : Base P E) (h : E.code 125 = some c125) : PureFn P E 125 F125 := by
  refine PureFn.of B.m B.T B.Q B.P fun vs r hF => ?_
  unfold F125 at hF
  split at hF
  · obtain ⟨⟨rfl, rfl, h1, h2, h3, h4⟩, hr⟩ := onlyIf_some hF
    rename_i s
    simp only [Option.some.injEq] at hr; subst hr
    exact ⟨s.length + 1, _, ev125 E h s h1 h2 h3 h4 _ (by omega), .inl rfl⟩
  · cases hF

theorem p154 (B : Base P E) (h : E.code 154 = some c154) (h125 : E.pure 125 = some F125) : PureFn P E 154 F154 := by
  refine PureFn.of B.m B.T B.Q B.P fun vs r hF => ?_
  unfold F154 at hF
  split at hF
  · rename_i s b z
    split at hF
    · rename_i v hv
      obtain ⟨⟨rfl, rfl, h1⟩, hr⟩ := onlyIf_some hF
      simp only [Option.some.injEq] at hr; subst hr
      exact ⟨1, _, ev154 E h h125 s v hv h1 1, .inl rfl⟩
    · cases hF
  · cases hF

theorem p149s (B : Base P E) (h : E.code 149 = some c149) (h154 : E.pure 154 = some F154) : PureFn P E 149 F149s := by
  refine PureFn.of B.m B.T B.Q B.P fun vs r hF => ?_
  unfold F149s at hF
  split at hF
  · rename_i s
    split at hF
    · rename_i v hv
      obtain ⟨h1, hr⟩ := onlyIf_some hF
      simp only [Option.some.injEq] at hr; subst hr
      exact ⟨s.length + 1, _, ev149s E h h154 s v hv h1 _ (by omega), .inl rfl⟩
    · cases hF
  · cases hF

theorem p143s (B : Base P E) (h : E.code 143 = some c143) (h149 : E.pure 149 = some F149s) : PureFn P E 143 F143s := by
  refine PureFn.of B.m B.T B.Q B.P fun vs r hF => ?_
  unfold F143s at hF
  split at hF
  · rename_i s
    split at hF
    · rename_i v hv
      obtain ⟨h1, hr⟩ := onlyIf_some hF
      simp only [Option.some.injEq] at hr; subst hr
      exact ⟨1, _, ev143s E h h149 s v hv h1 1, .inl rfl⟩
    · cases hF
  · cases hF

theorem p19 (B : Base P E) (h : E.code 19 = some c19) (h44 : E.pure 44 = some F44) (h45 : E.pure 45 = some F45) (h54 : E.pure 54 = some F54) (h55 : E.pure 55 = some F55) (h56 : E.pure 56 = some F56) (h57 : E.pure 57 = some F57) (h58 : E.pure 58 = some F58) : PureFn P E 19 F19 := by
  refine PureFn.of B.m B.T B.Q B.P fun vs r hF => ?_
  unfold F19 at hF
  split at hF
  · obtain ⟨⟨h0, h1⟩, hr⟩ := onlyIf_some hF
    rename_i l
    simp only [Option.some.injEq] at hr; subst hr
    have := ev19 E h h44 h45 h54 h55 h56 h57 h58 (l.map unrow) h1 (l.length + 1) (by simp)
    rw [← h0] at this
    exact ⟨_, _, this, .inl rfl⟩
  · cases hF

theorem p79 (B : Base P E) (h : E.code 79 = some c79) (h28 : E.pure 28 = some F28) (h52 : E.pure 52 = some F52) (h122 : E.pure 122 = some F122) : PureFn P E 79 F79 := by
  refine PureFn.of B.m B.T B.Q B.P fun vs r hF => ?_
  unfold F79 at hF
  split at hF
  · obtain ⟨⟨h0, h1⟩, hr⟩ := onlyIf_some hF
    rename_i a b
    simp only [Option.some.injEq] at hr; subst hr
    exact ⟨a.length + 2, _, ev79 E h h28 h52 h122 a b h0 h1 _ (by omega), .inl rfl⟩
  · cases hF

theorem p80 (B : Base P E) (h : E.code 80 = some c80) (h28 : E.pure 28 = some F28) : PureFn P E 80 F80 := by
  refine PureFn.of B.m B.T B.Q B.P fun vs r hF => ?_
  unfold F80 at hF
  split at hF
  · obtain ⟨h0, hr⟩ := onlyIf_some hF
    rename_i a
    simp only [Option.some.injEq] at hr; subst hr
    exact ⟨a.length + 2, _, ev80 E h h28 a h0 _ (by omega), .inl rfl⟩
  · cases hF

theorem p31sw (B : Base P E) (h : E.code 31 = some c31) (h78 : E.pure 78 = some F78) (h79 : E.pure 79 = some F79) (h80 : E.pure 80 = some F80) (h19 : E.pure 19 = some F19) : PureFn P E 31 F31sw := by
  refine PureFn.of B.m B.T B.Q B.P fun vs r hF => ?_
  unfold F31sw at hF
  split at hF
  · obtain ⟨⟨h0, h1, h2⟩, hr⟩ := onlyIf_some hF
    rename_i text rows ok
    simp only [Option.some.injEq] at hr; subst hr
    have := ev31sw E h h78 h79 h80 h19 text h0 (rows.map unrow) h2 ok 1
    rw [← h1] at this
    exact ⟨_, _, this, .inl rfl⟩
  · cases hF

theorem p18 (B : Base P E) (h : E.code 18 = some c18) (h28 : E.pure 28 = some F28) (h52 : E.pure 52 = some F52) (h53 : E.pure 53 = some F53) (h31 : E.pure 31 = some F31sw) : PureFn P E 18 F18 := by
  refine PureFn.of B.m B.T B.Q B.P fun vs r hF => ?_
  unfold F18 at hF
  split at hF
  · obtain ⟨h0, hr⟩ := onlyIf_some hF
    rename_i s
    simp only [Option.some.injEq] at hr; subst hr
    exact ⟨s.length + 2, _, ev18 E h h28 h52 h53 h31 s h0 _ (by omega), .inl rfl⟩
  · cases hF

theorem p21 (B : Base P E) (h : E.code 21 = some c21) (h19 : E.pure 19 = some F19) (h33 : E.pure 33 = some F33) (h34 : E.pure 34 = some F34) (h36 : E.pure 36 = some F36) (h66 : E.pure 66 = some F66) : PureFn P E 21 F21 := by
  refine PureFn.of B.m B.T B.Q B.P fun vs r hF => ?_
  unfold F21 at hF
  split at hF
  · obtain ⟨⟨h0, h1, h2⟩, hr⟩ := onlyIf_some hF
    rename_i l
    simp only [Option.some.injEq] at hr; subst hr
    have := ev21 E h h19 h33 h34 h36 h66 (l.map unrow) h1 h2 (l.length + 1) (by simp)
    rw [← h0] at this
    exact ⟨_, _, this, .inl rfl⟩
  · cases hF

theorem p129 (B : Base P E) (h : E.code 129 = some c129) (h127 : E.pure 127 = some F127) (h143 : E.pure 143 = some F143s) : PureFn P E 129 F129 := by
  refine PureFn.of B.m B.T B.Q B.P fun vs r hF => ?_
  unfold F129 at hF
  split at hF
  · rename_i s
    split at hF
    · rename_i w t x y z hw
      split at hF
      · rename_i a b c hx hy hz
        obtain ⟨⟨h0, h1, h2, h3, h4⟩, hr⟩ := onlyIf_some hF
        simp only [Option.some.injEq] at hr; subst hr
        exact ⟨1, _, ev129 E h h127 h143 s w t x y z a b c h0 h1 hw hx hy hz h2 h3 h4 1, .inl rfl⟩
      · cases hF
    · cases hF
  · cases hF

theorem p114 (B : Base P E) (h : E.code 114 = some c114) (h87 : E.code 87 = some c87) (h88 : E.code 88 = some c88) (h90 : E.code 90 = some c90) (h128 : E.code 128 = some c128) (hp87 : E.pure 87 = none) (hp88 : E.pure 88 = none) (hp90 : E.pure 90 = none) (hp128 : E.pure 128 = none)
    (h129 : E.pure 129 = some F129) : PureFn P E 114 F114 := by
  refine PureFn.of B.m B.T B.Q B.P fun vs r hF => ?_
  unfold F114 at hF
  split at hF
  · rename_i bs
    split at hF
    · rename_i s hsv
      split at hF
      · rename_i rs hr
        obtain ⟨⟨h0, rfl⟩, hx⟩ := onlyIf_some hF
        simp only [Option.some.injEq] at hx; subst hx
        exact ⟨s.length + 3, _, ev114 E h h87 h88 h90 h128 hp87 hp88 hp90 hp128 h129 s rs hr h0 (s.length + 2) (by omega), .inl rfl⟩
      · cases hF
    · cases hF
  · cases hF

theorem p60 (B : Base P E) (h : E.code 60 = some c60) (h85 : E.pure 85 = some F85) (h99 : E.pure 99 = some F99) (h114 : E.pure 114 = some F114) : PureFn P E 60 F60 := by
  refine PureFn.of B.m B.T B.Q B.P fun vs r hF => ?_
  unfold F60 at hF
  split at hF
  · rename_i s
    split at hF
    · rename_i rs hr
      obtain ⟨h0, hx⟩ := onlyIf_some hF
      simp only [Option.some.injEq] at hx; subst hx
      exact ⟨1, _, ev60 E h h85 h99 h114 s rs hr h0 1, .inl rfl⟩
    · cases hF
  · cases hF

theorem p65 (B : Base P E) (h : E.code 65 = some c65) : PureFn P E 65 F65 := by
  refine PureFn.of B.m B.T B.Q B.P fun vs r hF => ?_
  unfold F65 at hF
  split at hF
  · rename_i n w t a b c
    simp only [Option.some.injEq] at hF; subst hF
    exact ⟨1, _, ev65 E h n w t a b c 1, .inl rfl⟩
  · cases hF

theorem p64 (B : Base P E) (h : E.code 64 = some c64) (h65 : E.pure 65 = some F65) : PureFn P E 64 F64 := by
  refine PureFn.of B.m B.T B.Q B.P fun vs r hF => ?_
  unfold F64 at hF
  split at hF
  · rename_i n w t a b c
    simp only [Option.some.injEq] at hF; subst hF
    exact ⟨1, _, ev64 E h h65 n w t a b c 1, .inl rfl⟩
  · cases hF

theorem p63 (B : Base P E) (h : E.code 63 = some c63) (h64 : E.pure 64 = some F64) : PureFn P E 63 F63 := by
  refine PureFn.of B.m B.T B.Q B.P fun vs r hF => ?_
  unfold F63 at hF
  split at hF
  · rename_i w t a b c
    simp only [Option.some.injEq] at hF; subst hF
    exact ⟨1, _, ev63 E h h64 w t a b c 1, .inl rfl⟩
  · cases hF

theorem p62 (B : Base P E) (h : E.code 62 = some c62) (h63 : E.pure 63 = some F63) : PureFn P E 62 F62 := by
  refine PureFn.of B.m B.T B.Q B.P fun vs r hF => ?_
  unfold F62 at hF
  split at hF
  · obtain ⟨⟨h0, h1, h2⟩, hr⟩ := onlyIf_some hF
    rename_i l
    simp only [Option.some.injEq] at hr; subst hr
    have := ev62 E h h63 (l.map unsw) h1 (by simpa using h2) (l.length + 1) (by simp)
    rw [← h0] at this
    exact ⟨_, _, this, .inl rfl⟩
  · cases hF

theorem p61 (B : Base P E) (h : E.code 61 = some c61) (h62 : E.pure 62 = some F62) : PureFn P E 61 F61 := by
  refine PureFn.of B.m B.T B.Q B.P fun vs r hF => ?_
  unfold F61 at hF
  split at hF
  · obtain ⟨⟨h0, h1, h2⟩, hr⟩ := onlyIf_some hF
    rename_i l
    simp only [Option.some.injEq] at hr; subst hr
    exact ⟨1, _, ev61 E h h62 l h0 h1 h2 1, .inl rfl⟩
  · cases hF

theorem p59 (B : Base P E) (h : E.code 59 = some c59) (hq : E.quiet 113 = true) (h60 : E.pure 60 = some F60) (h61 : E.pure 61 = some F61) : PureFn P E 59 F59 := by
  refine PureFn.of B.m B.T B.Q B.P fun vs r hF => ?_
  unfold F59 at hF
  split at hF
  · rename_i s
    split at hF
    · rename_i rs hr
      obtain ⟨h0, hx⟩ := onlyIf_some hF
      simp only [Option.some.injEq] at hx; subst hx
      exact ⟨1, _, ev59 E h hq h60 h61 s rs hr h0 1, .inl rfl⟩
    · cases hF
  · cases hF

theorem p20 (B : Base P E) (h : E.code 20 = some c20) (h38 : E.pure 38 = some F38) (h59 : E.pure 59 = some F59) : PureFn P E 20 F20 := by
  refine PureFn.of B.m B.T B.Q B.P fun vs r hF => ?_
  unfold F20 at hF
  split at hF
  · rename_i s
    split at hF
    · rename_i rs hr
      obtain ⟨h0, hx⟩ := onlyIf_some hF
      simp only [Option.some.injEq] at hx; subst hx
      exact ⟨1, _, ev20 E h h38 h59 s rs hr h0 1, .inl rfl⟩
    · cases hF
  · cases hF

theorem p9sw (B : Base P E) (h : E.code 9 = some c9) (h18 : E.pure 18 = some F18) (h21 : E.pure 21 = some F21) (h20 : E.pure 20 = some F20) (h25 : E.pure 25 = some F25) (h26 : E.pure 26 = some F26) (h27 : E.pure 27 = some F27) : PureFn P E 9 F9sw := by
  refine PureFn.of B.m B.T B.Q B.P fun vs r hF => ?_
  unfold F9sw at hF
  split at hF
  · rename_i s
    simp only [Option.some.injEq] at hF; subst hF
    exact ⟨1, _, ev9_sw E h h18 h21 h20 h25 h26 h27 s 1, .inl rfl⟩
  · cases hF

theorem p13sw (B : Base P E) (h : E.code 13 = some c13) (h18 : E.pure 18 = some F18) (h19 : E.pure 19 = some F19) (h20 : E.pure 20 = some F20) (h25 : E.pure 25 = some F25) (h26 : E.pure 26 = some F26) (h27 : E.pure 27 = some F27) : PureFn P E 13 F13sw := by
  refine PureFn.of B.m B.T B.Q B.P fun vs r hF => ?_
  unfold F13sw at hF
  split at hF
  · rename_i s
    simp only [Option.some.injEq] at hF; subst hF
    exact ⟨1, _, ev13_sw E h h18 h19 h20 h25 h26 h27 s 1, .inl rfl⟩
  · cases hF

theorem p7 (B : Base P E) (h : E.code 7 = some c7) (h9 : E.pure 9 = some F9sw) : PureFn P E 7 F8 := by
  refine PureFn.of B.m B.T B.Q B.P fun vs r hF => ?_
  unfold F8 at hF
  split at hF
  · rename_i s
    simp only [Option.some.injEq] at hF; subst hF
    exact ⟨1, _, ev7_call E h h9 s 1, .inl rfl⟩
  · cases hF

theorem p6 (B : Base P E) (h : E.code 6 = some c6) (h13 : E.pure 13 = some F13sw) : PureFn P E 6 F8 := by
  refine PureFn.of B.m B.T B.Q B.P fun vs r hF => ?_
  unfold F8 at hF
  split at hF
  · rename_i s
    simp only [Option.some.injEq] at hF; subst hF
    exact ⟨1, _, ev6_call E h h13 s 1, .inl rfl⟩
  · cases hF

end Go.Ev
