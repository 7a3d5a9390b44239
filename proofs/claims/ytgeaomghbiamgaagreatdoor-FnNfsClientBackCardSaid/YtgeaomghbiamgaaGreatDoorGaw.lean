/- NFS: the client: the door's reading, whole (lines printed by a program of this work). -/
/- NFS: the server: the door's tree (lines printed by a program of this work). -/
/- NFS: the client: the door's tree (lines printed by a program of this work). -/
/- NFS: the server: the door, whole; the laws (lines printed by a program of this work). -/
/- NFS: the client: the door, whole; the laws (lines printed by a program of this work). -/
/- Entries of the NFS server's reading. -/
/- Entries of the NFS client's reading. -/
/- What the listed variables hold, in the evaluator's words. -/
/- Rows of an argument, opened: what the evaluator reads in them. -/
import Derived.Test.YtgeaomghbiamgaaGreatDoorGau
import Derived.Test.YtgeaomghbiamgaaGreatDoorGas
import Derived.Test.YtgeaomghbiamgaaGreatDoorGba
import Derived.Test.YtgeaomghbiamgaaGreatDoorGat
import Derived.ProofKit
import Derived.OpenShut
import Derived.LaidMore
import Derived.Test.YtgeaomghbiamgaaGreatDoorGah
import Derived.Test.YtgeaomghbiamgaaGreatDoorGar
import Derived.SliceStrings
import Derived.ChangeSlices
set_option linter.unusedSimpArgs false
set_option linter.unusedVariables false
namespace Go.Ev
open Go.Proofs

theorem cli_names {s : List UInt8} {k : Nat} (h : nfWant nfCli s k = some k) : (s = [110, 101, 116] ∧ k = 4) ∨ (s = [114, 112, 99] ∧ k = 3) ∨ (s = [112, 114, 111, 99, 50] ∧ k = 18) ∨ (s = [112, 114, 111, 99, 51] ∧ k = 22) ∨ (s = [112, 114, 111, 99, 52] ∧ k = 59) := by
  unfold nfWant at h
  by_cases hw : s = sWd
  · rw [if_pos hw] at h
    have hr : (grpOf nfCli sRc).isSome = false := rfl
    rw [hr] at h
    cases h
  · rw [if_neg hw] at h
    cases hg : grpOf nfCli s with
    | none => rw [hg] at h; cases h
    | some g =>
      rw [hg] at h
      simp only [Option.some.injEq] at h
      obtain ⟨m1, m2⟩ := grpOf_mem hg
      subst m2
      simp only [nfCli, List.mem_cons, List.not_mem_nil, or_false] at m1
      rcases m1 with rfl | rfl | rfl | rfl | rfl
      · rw [if_neg (by decide), if_neg (by decide)] at h
        exact (.inl ⟨rfl, h.symm⟩)
      · rw [if_neg (by decide), if_neg (by decide)] at h
        exact (.inr (.inl ⟨rfl, h.symm⟩))
      · rw [if_neg (by decide), if_neg (by decide)] at h
        exact (.inr (.inr (.inl ⟨rfl, h.symm⟩)))
      · rw [if_neg (by decide), if_neg (by decide)] at h
        exact (.inr (.inr (.inr (.inl ⟨rfl, h.symm⟩))))
      · rw [if_neg (by decide), if_neg (by decide)] at h
        exact (.inr (.inr (.inr (.inr ⟨rfl, h.symm⟩))))

theorem cliGood {done : List RowD} (h : ∀ r ∈ done, nfOk1 nfCli r = true) : layGood cliLay done := by
  intro q hq r hr he
  have hw := cli_names (nfOk1_want (h r hr)).1
  rw [he] at hw
  simp only [cliLay, List.mem_cons, List.not_mem_nil, or_false] at hq
  rcases hq with rfl | rfl | rfl | rfl | rfl
  · have hk : r.N.length = 4 := by simpa using hw
    show (u64s r.N).length = _
    rw [u64s_length, hk]; rfl
  · have hk : r.N.length = 3 := by simpa using hw
    show (u64s r.N).length = _
    rw [u64s_length, hk]; rfl
  · have hk : r.N.length = 18 := by simpa using hw
    show (u64s r.N).length = _
    rw [u64s_length, hk]; rfl
  · have hk : r.N.length = 22 := by simpa using hw
    show (u64s r.N).length = _
    rw [u64s_length, hk]; rfl
  · have hk : r.N.length = 59 := by simpa using hw
    show (u64s (sw45 r.N)).length = _
    rw [u64s_length, sw45_length, hk]; rfl

structure ClH (E : Env) : Prop where
  h3154 : Has E 80 S3154
  h3155 : Has E 81 S3155
  h3156 : Has E 82 S3156
  h3157 : Has E 83 S3157
  h3158 : Has E 84 S3158
  h53 : Has E 79 S3153
  h127 : E.pure 76 = some F127
  h88 : E.code 75 = some c88
  h90 : E.code 77 = some c90
  hp88 : E.pure 75 = none
  hp90 : E.pure 77 = none

set_option maxRecDepth 100000 in
set_option maxHeartbeats 4000000 in
theorem step3090 (E : Env) (H : ClH E) (N m : Nat) (done : List RowD) (r : RowD) (hd : ∀ q ∈ done, nfOk1 nfCli q = true) (ho : nfOk1 nfCli r = true) (hf : r.fits3) (hnd : ∀ q ∈ done, q.name ≠ r.name) (more t : List UInt8) (hl : (nfBody r ++ 10 :: more).length ≤ 40000) (hN : (nfBody r ++ 10 :: more).length < N) :
    evCA E (evF E (N + 1)) m b3090_0 (st3090 (layC cliLay done) (nfBody r ++ 10 :: more) t) = some (.normal, st3090 (layC cliLay (done ++ [r])) more (nfBody r)) := by
  obtain ⟨⟨Q0, q0, z0⟩, ⟨Q1, q1, z1⟩, ⟨Q2, q2, z2⟩, ⟨Q3, q3, z3⟩, ⟨Q4, q4, z4⟩, ⟨FP, p53, s53⟩, h127, h88, h90, hp88, hp90⟩ := H
  have hgood := cliGood hd
  have hch := nfBody_chars nfCli_labs ho
  simp only [List.length_append, List.length_cons] at hl hN
  have hC : (layC cliLay done).length = 106 := by
    unfold layC
    rw [List.length_map, lay_len hgood]
    rfl
  have hsc := scan88 E h88 1 [.live (layC cliLay done), scanBox (nfBody r ++ 10 :: more) t] (nfBody r) more t rfl (by omega) (by omega) (fun c hc => ⟨(hch c hc).1, (plain_lt (hch c hc).2).2⟩) N (by omega)
  have htx := evF90 E h90 N 1 [.live (layC cliLay done), scanBox more (nfBody r)] more (nfBody r) rfl
  have e127 := nfBody_words nfCli_labs ho (by omega)
  have hnw := cli_names (nfOk1_want ho).1
  have hno := rowOf_none hnd
  obtain ⟨nm, NN, SS⟩ := r
  obtain ⟨f1, f2, f3, f4, f5⟩ := hf
  simp only [strs, List.map_cons] at e127
  rw [show (nfWords ⟨nm, NN, SS⟩).map SV.str = strs (nfWords ⟨nm, NN, SS⟩) from rfl] at e127
  have hcu := strs_cells (nfWords ⟨nm, NN, SS⟩)
  simp only at hnw hno f2 f3
  rcases hnw with ⟨rfl, hk⟩ | ⟨rfl, hk⟩ | ⟨rfl, hk⟩ | ⟨rfl, hk⟩ | ⟨rfl, hk⟩
  · -- net
    have hwd : nfWords ⟨[110, 101, 116], NN, SS⟩ = NN.map decS := by
      unfold nfWords
      rw [if_neg (by decide : ¬ isProc [110, 101, 116] = true), if_neg (by decide : ¬ ([110, 101, 116] : List UInt8) = sTh)]
      simp
    rw [hwd] at e127 hcu
    have eP := s53 NN (by omega) f3
    have eQ := z0 NN hk
    have hst := line3090_net E (evF E (N + 1)) m hp88 hp90 h127 FP p53 Q0 q0 (layC cliLay done) hC _ t (nfBody ⟨[110, 101, 116], NN, SS⟩) more hsc htx (strs (NN.map decS)) _ (u64s NN) e127 (by rw [strs_length]; simp; try omega) hcu eP eQ (by rw [u64s_length, hk])
    have hls : layC cliLay (done ++ [⟨[110, 101, 116], NN, SS⟩]) = setCells (layC cliLay done) 0 (u64s NN) := by
      have e := lay_step (pre := cliLay.take 0) (post := cliLay.drop 1) (p := ⟨[110, 101, 116], u64s, zeros 4⟩) (done := done) (r := ⟨[110, 101, 116], NN, SS⟩) rfl hno (by show ∀ q ∈ cliLay.take 0, [110, 101, 116] ≠ q.label; decide) (by show ∀ q ∈ cliLay.drop 1, [110, 101, 116] ≠ q.label; decide) (by show (u64s NN).length = (zeros 4).length; rw [u64s_length, hk]; rfl)
      rw [lay_len (L := cliLay.take 0) (fun q hq => hgood q (List.mem_of_mem_take hq))] at e
      exact e
    rw [hls]
    exact hst
  · -- rpc
    have hwd : nfWords ⟨[114, 112, 99], NN, SS⟩ = NN.map decS := by
      unfold nfWords
      rw [if_neg (by decide : ¬ isProc [114, 112, 99] = true), if_neg (by decide : ¬ ([114, 112, 99] : List UInt8) = sTh)]
      simp
    rw [hwd] at e127 hcu
    have eP := s53 NN (by omega) f3
    have eQ := z1 NN hk
    have hst := line3090_rpc E (evF E (N + 1)) m hp88 hp90 h127 FP p53 Q1 q1 (layC cliLay done) hC _ t (nfBody ⟨[114, 112, 99], NN, SS⟩) more hsc htx (strs (NN.map decS)) _ (u64s NN) e127 (by rw [strs_length]; simp; try omega) hcu eP eQ (by rw [u64s_length, hk])
    have hls : layC cliLay (done ++ [⟨[114, 112, 99], NN, SS⟩]) = setCells (layC cliLay done) 4 (u64s NN) := by
      have e := lay_step (pre := cliLay.take 1) (post := cliLay.drop 2) (p := ⟨[114, 112, 99], u64s, zeros 3⟩) (done := done) (r := ⟨[114, 112, 99], NN, SS⟩) rfl hno (by show ∀ q ∈ cliLay.take 1, [114, 112, 99] ≠ q.label; decide) (by show ∀ q ∈ cliLay.drop 2, [114, 112, 99] ≠ q.label; decide) (by show (u64s NN).length = (zeros 3).length; rw [u64s_length, hk]; rfl)
      rw [lay_len (L := cliLay.take 1) (fun q hq => hgood q (List.mem_of_mem_take hq))] at e
      exact e
    rw [hls]
    exact hst
  · -- proc2
    have hwd : nfWords ⟨[112, 114, 111, 99, 50], NN, SS⟩ = (NN.length :: NN).map decS := by
      unfold nfWords
      rw [if_pos (by decide : isProc [112, 114, 111, 99, 50] = true), if_neg (by decide : ¬ ([112, 114, 111, 99, 50] : List UInt8) = sTh)]
      simp
    rw [hwd] at e127 hcu
    have eP := s53 (NN.length :: NN) (by simp only [List.length_cons]; omega) (fun n hn => by
      rcases List.mem_cons.1 hn with rfl | hn
      · omega
      · exact f3 n hn)
    have eQ := z2 NN hk
    rw [show (18 :: NN) = (NN.length :: NN) from by rw [hk]] at eQ
    have hst := line3090_proc2 E (evF E (N + 1)) m hp88 hp90 h127 FP p53 Q2 q2 (layC cliLay done) hC _ t (nfBody ⟨[112, 114, 111, 99, 50], NN, SS⟩) more hsc htx (strs ((NN.length :: NN).map decS)) _ (u64s NN) e127 (by rw [strs_length]; simp) hcu eP eQ (by rw [u64s_length, hk])
    have hls : layC cliLay (done ++ [⟨[112, 114, 111, 99, 50], NN, SS⟩]) = setCells (layC cliLay done) 7 (u64s NN) := by
      have e := lay_step (pre := cliLay.take 2) (post := cliLay.drop 3) (p := ⟨[112, 114, 111, 99, 50], u64s, zeros 18⟩) (done := done) (r := ⟨[112, 114, 111, 99, 50], NN, SS⟩) rfl hno (by show ∀ q ∈ cliLay.take 2, [112, 114, 111, 99, 50] ≠ q.label; decide) (by show ∀ q ∈ cliLay.drop 3, [112, 114, 111, 99, 50] ≠ q.label; decide) (by show (u64s NN).length = (zeros 18).length; rw [u64s_length, hk]; rfl)
      rw [lay_len (L := cliLay.take 2) (fun q hq => hgood q (List.mem_of_mem_take hq))] at e
      exact e
    rw [hls]
    exact hst
  · -- proc3
    have hwd : nfWords ⟨[112, 114, 111, 99, 51], NN, SS⟩ = (NN.length :: NN).map decS := by
      unfold nfWords
      rw [if_pos (by decide : isProc [112, 114, 111, 99, 51] = true), if_neg (by decide : ¬ ([112, 114, 111, 99, 51] : List UInt8) = sTh)]
      simp
    rw [hwd] at e127 hcu
    have eP := s53 (NN.length :: NN) (by simp only [List.length_cons]; omega) (fun n hn => by
      rcases List.mem_cons.1 hn with rfl | hn
      · omega
      · exact f3 n hn)
    have eQ := z3 NN hk
    rw [show (22 :: NN) = (NN.length :: NN) from by rw [hk]] at eQ
    have hst := line3090_proc3 E (evF E (N + 1)) m hp88 hp90 h127 FP p53 Q3 q3 (layC cliLay done) hC _ t (nfBody ⟨[112, 114, 111, 99, 51], NN, SS⟩) more hsc htx (strs ((NN.length :: NN).map decS)) _ (u64s NN) e127 (by rw [strs_length]; simp) hcu eP eQ (by rw [u64s_length, hk])
    have hls : layC cliLay (done ++ [⟨[112, 114, 111, 99, 51], NN, SS⟩]) = setCells (layC cliLay done) 25 (u64s NN) := by
      have e := lay_step (pre := cliLay.take 3) (post := cliLay.drop 4) (p := ⟨[112, 114, 111, 99, 51], u64s, zeros 22⟩) (done := done) (r := ⟨[112, 114, 111, 99, 51], NN, SS⟩) rfl hno (by show ∀ q ∈ cliLay.take 3, [112, 114, 111, 99, 51] ≠ q.label; decide) (by show ∀ q ∈ cliLay.drop 4, [112, 114, 111, 99, 51] ≠ q.label; decide) (by show (u64s NN).length = (zeros 22).length; rw [u64s_length, hk]; rfl)
      rw [lay_len (L := cliLay.take 3) (fun q hq => hgood q (List.mem_of_mem_take hq))] at e
      exact e
    rw [hls]
    exact hst
  · -- proc4
    have hwd : nfWords ⟨[112, 114, 111, 99, 52], NN, SS⟩ = (NN.length :: NN).map decS := by
      unfold nfWords
      rw [if_pos (by decide : isProc [112, 114, 111, 99, 52] = true), if_neg (by decide : ¬ ([112, 114, 111, 99, 52] : List UInt8) = sTh)]
      simp
    rw [hwd] at e127 hcu
    have eP := s53 (NN.length :: NN) (by simp only [List.length_cons]; omega) (fun n hn => by
      rcases List.mem_cons.1 hn with rfl | hn
      · omega
      · exact f3 n hn)
    have eQ := z4 NN hk
    rw [show (59 :: NN) = (NN.length :: NN) from by rw [hk]] at eQ
    have hst := line3090_proc4 E (evF E (N + 1)) m hp88 hp90 h127 FP p53 Q4 q4 (layC cliLay done) hC _ t (nfBody ⟨[112, 114, 111, 99, 52], NN, SS⟩) more hsc htx (strs ((NN.length :: NN).map decS)) _ (u64s (sw45 NN)) e127 (by rw [strs_length]; simp) hcu eP eQ (by rw [u64s_length, sw45_length, hk])
    have hls : layC cliLay (done ++ [⟨[112, 114, 111, 99, 52], NN, SS⟩]) = setCells (layC cliLay done) 47 (u64s (sw45 NN)) := by
      have e := lay_step (pre := cliLay.take 4) (post := cliLay.drop 5) (p := ⟨[112, 114, 111, 99, 52], fun ns => u64s (sw45 ns), zeros 59⟩) (done := done) (r := ⟨[112, 114, 111, 99, 52], NN, SS⟩) rfl hno (by show ∀ q ∈ cliLay.take 4, [112, 114, 111, 99, 52] ≠ q.label; decide) (by show ∀ q ∈ cliLay.drop 5, [112, 114, 111, 99, 52] ≠ q.label; decide) (by show (u64s (sw45 NN)).length = (zeros 59).length; rw [u64s_length, sw45_length, hk]; rfl)
      rw [lay_len (L := cliLay.take 4) (fun q hq => hgood q (List.mem_of_mem_take hq))] at e
      exact e
    rw [hls]
    exact hst

theorem loop3090 (E : Env) (H : ClH E) (N m : Nat) :
    ∀ (rest done : List RowD) (t : List UInt8) (k : Nat), (∀ q ∈ done ++ rest, nfOk1 nfCli q = true) → (∀ q ∈ rest, q.fits3) → ((done ++ rest).map RowD.name).Nodup → (nfText rest).length ≤ 40000 → (nfText rest).length < N → rest.length < k →
      roundsA (evCA E (evF E (N + 1)) m b3090_0) k (st3090 (layC cliLay done) (nfText rest) t) = some (.exit 0, { nt := 97, tm := [(5, .ptr 1 0), (4, .ptr 0 0)], lz := none, bx := [.live (layC cliLay (done ++ rest)), scanBox [] []], df := [] }) := by
  have H' := H
  obtain ⟨_, _, _, _, _, _, h127, h88, h90, hp88, hp90⟩ := H'
  intro rest
  induction rest with
  | nil =>
    intro done t k hd _ _ _ _ hk
    obtain ⟨k, rfl⟩ : ∃ k', k = k' + 1 := ⟨k - 1, by omega⟩
    have hs := scan88e E h88 1 [.live (layC cliLay done), scanBox [] t] t rfl N
    simp only [List.set_cons_succ, List.set_cons_zero] at hs
    rw [List.append_nil]
    generalize layC cliLay done = C at *
    refine roundsA_out ?_ (by simp)
    have hnt : nfText [] = [] := rfl
    rw [hnt]
    simp only [scanBox] at *
    simp [b3090_0, st3090, scanBox, hp88, hs]
  | cons r rest ih =>
    intro done t k hd hf hn hl hN hk
    obtain ⟨k, rfl⟩ : ∃ k', k = k' + 1 := ⟨k - 1, by omega⟩
    rw [nfText_cons] at hl hN ⊢
    have hst := step3090 E H N m done r (fun q hq => hd q (by simp [hq])) (hd r (by simp)) (hf r (by simp)) (fun q hq he => by
      rw [List.map_append, List.map_cons, List.nodup_append] at hn
      exact hn.2.2 q.name (List.mem_map.2 ⟨q, hq, rfl⟩) r.name (by simp) he) (nfText rest) t hl hN
    simp only [List.length_append, List.length_cons] at hl hN hk
    have he := ih (done ++ [r]) (nfBody r) k (by rw [List.append_assoc]; exact hd) (fun q hq => hf q (by simp [hq])) (by rw [List.append_assoc]; exact hn) (by omega) (by omega) (by omega)
    rw [List.append_assoc] at he
    rw [roundsA_step hst]
    exact he

def S3090 (F : List SV → Option AV) : Prop := ∀ rs : List RowD, cliOk rs = true → rowsFit3 rs → (nfText rs).length ≤ 40000 → F [.str (nfText rs)] = some (.sv (.tup [.ref ((layCells cliLay rs).map SV.can0), .nilI]))

theorem layK0 : ([.sv (.int .u64 0), .sv (.int .u64 0), .sv (.int .u64 0), .sv (.int .u64 0), .sv (.int .u64 0), .sv (.int .u64 0), .sv (.int .u64 0), .sv (.int .u64 0), .sv (.int .u64 0), .sv (.int .u64 0), .sv (.int .u64 0), .sv (.int .u64 0), .sv (.int .u64 0), .sv (.int .u64 0), .sv (.int .u64 0), .sv (.int .u64 0), .sv (.int .u64 0), .sv (.int .u64 0), .sv (.int .u64 0), .sv (.int .u64 0), .sv (.int .u64 0), .sv (.int .u64 0), .sv (.int .u64 0), .sv (.int .u64 0), .sv (.int .u64 0), .sv (.int .u64 0), .sv (.int .u64 0), .sv (.int .u64 0), .sv (.int .u64 0), .sv (.int .u64 0), .sv (.int .u64 0), .sv (.int .u64 0), .sv (.int .u64 0), .sv (.int .u64 0), .sv (.int .u64 0), .sv (.int .u64 0), .sv (.int .u64 0), .sv (.int .u64 0), .sv (.int .u64 0), .sv (.int .u64 0), .sv (.int .u64 0), .sv (.int .u64 0), .sv (.int .u64 0), .sv (.int .u64 0), .sv (.int .u64 0), .sv (.int .u64 0), .sv (.int .u64 0), .sv (.int .u64 0), .sv (.int .u64 0), .sv (.int .u64 0), .sv (.int .u64 0), .sv (.int .u64 0), .sv (.int .u64 0), .sv (.int .u64 0), .sv (.int .u64 0), .sv (.int .u64 0), .sv (.int .u64 0), .sv (.int .u64 0), .sv (.int .u64 0), .sv (.int .u64 0), .sv (.int .u64 0), .sv (.int .u64 0), .sv (.int .u64 0), .sv (.int .u64 0), .sv (.int .u64 0), .sv (.int .u64 0), .sv (.int .u64 0), .sv (.int .u64 0), .sv (.int .u64 0), .sv (.int .u64 0), .sv (.int .u64 0), .sv (.int .u64 0), .sv (.int .u64 0), .sv (.int .u64 0), .sv (.int .u64 0), .sv (.int .u64 0), .sv (.int .u64 0), .sv (.int .u64 0), .sv (.int .u64 0), .sv (.int .u64 0), .sv (.int .u64 0), .sv (.int .u64 0), .sv (.int .u64 0), .sv (.int .u64 0), .sv (.int .u64 0), .sv (.int .u64 0), .sv (.int .u64 0), .sv (.int .u64 0), .sv (.int .u64 0), .sv (.int .u64 0), .sv (.int .u64 0), .sv (.int .u64 0), .sv (.int .u64 0), .sv (.int .u64 0), .sv (.int .u64 0), .sv (.int .u64 0), .sv (.int .u64 0), .sv (.int .u64 0), .sv (.int .u64 0), .sv (.int .u64 0), .sv (.int .u64 0), .sv (.int .u64 0), .sv (.int .u64 0), .sv (.int .u64 0), .sv (.int .u64 0), .sv (.int .u64 0)] : List Cell) = layC cliLay [] := rfl

set_option maxRecDepth 100000 in
set_option maxHeartbeats 16000000 in
theorem ev3090 (E : Env) (h : E.code 32 = some c3090) (H : ClH E) (h87 : E.code 74 = some c87) (h128 : E.code 85 = some c128) (hp87 : E.pure 74 = none) (hp128 : E.pure 85 = none) : S3090 (autoF E 32) := by
  intro rs hok hf hl
  have hok' := hok
  unfold cliOk nfOk at hok'
  simp only [Bool.and_eq_true, List.all_eq_true] at hok'
  have hrl : rs.length ≤ (nfText rs).length := by
    clear hok hok' hf hl
    induction rs with
    | nil => simp
    | cons r rs ih => rw [nfText_cons]; simp only [List.length_append, List.length_cons]; omega
  have e87 := evF87 E h87 ((nfText rs).length + 2) [.live (layC cliLay [])] (nfText rs)
  have hlp := loop3090 E H ((nfText rs).length + 2) ((nfText rs).length + 3) rs [] [] ((nfText rs).length + 3) hok'.1 hf.2 (distP_nodup _ _ hok'.2).1 hl (by omega) (by omega)
  have e128 := evF128 E h128 ((nfText rs).length + 2) 1 [.live (layC cliLay rs), scanBox [] []] [] [] rfl
  have hbc' := layC_plain cliLay rs
  clear H hok hok' hf hl hrl
  rw [List.nil_append] at hlp
  refine autoA_sv (n := (nfText rs).length + 3) ?_ rfl
  unfold evPA
  simp only [h]
  have hC0 := layK0
  generalize layC cliLay [] = C0 at *
  generalize layC cliLay rs = C at *
  generalize nfText rs = s at *
  generalize (layCells cliLay rs).map SV.can0 = R at *
  simp only [List.length_cons, List.length_nil, List.cons_append, List.nil_append] at e87
  simp only [st3090] at hlp
  simp only [scanBox] at *
  simp (maxSteps := 5000000) [c3090, hC0, hp87, hp128, e87, hlp, e128, hbc']

end Go.Ev

set_option linter.unusedSimpArgs false
set_option linter.unusedVariables false
namespace Go.Ev
open Go.Proofs

def stC (D : List Cell) : SA := { nt := 0, tm := [], lz := none, bx := [.live D], df := [] }

theorem stC_live (l : List SV) : (l.map Cell.sv).map (fun c => match c with | .sv v => v | .own _ xs => .sl xs | .lnk _ _ => .ref [] | .lrw _ _ _ => .unk) = l := by
  induction l with
  | nil => rfl
  | cons x l ih => simp only [List.map_cons]; rw [ih]

theorem cellsC (l : List SV) (off : Nat) : cellsAtA (stC (l.map Cell.sv)) (.ptr 0 off) = some (l.drop off) := by
  show some ((((l.map Cell.sv).drop off).map fun c => match c with | .sv v => v | .own _ xs => .sl xs | .lnk _ _ => .ref [] | .lrw _ _ _ => .unk)) = _
  rw [← List.map_drop, stC_live]

theorem partC {A B C : List SV} {off k : Nat} (h1 : A.length = off) (h2 : B.length = k) : takeN (some k) ((A ++ (B ++ C)).drop off) = some (.agg (B.map SV.can0)) := by
  subst h1; subst h2
  rw [List.drop_left]
  unfold takeN
  simp only
  rw [if_pos (by rw [List.length_append]; omega), List.take_left]

end Go.Ev

set_option linter.unusedSimpArgs false
set_option linter.unusedVariables false
namespace Go.Ev
open Go.Proofs

set_option maxRecDepth 100000 in
set_option maxHeartbeats 40000000 in
theorem core3094 (E : Env) (h : E.code 36 = some c3094) (C : List SV) (hl : C.length = 106) (T0 : List SV → Option AV) (p0 : E.pure 87 = some T0) (P0 K0 : List SV) (e0 : T0 [.str [78, 101, 116, 119, 111, 114, 107], .agg P0] = some (.sv (.agg [.str [78, 101, 116, 119, 111, 114, 107], .int .i64 8, .bool false, .int .i64 0, .int .u64 0, .flt .f64 0, .str [], .sl K0]))) (y0 : (cellsAtA (stC (C.map Cell.sv)) (.ptr 0 0)).bind (takeN (some 4)) = some (.agg P0)) (q0 : P0.map SV.can0 = P0) (T1 : List SV → Option AV) (p1 : E.pure 88 = some T1) (P1 K1 : List SV) (e1 : T1 [.str [67, 108, 105, 101, 110, 116, 82, 80, 67], .agg P1] = some (.sv (.agg [.str [67, 108, 105, 101, 110, 116, 82, 80, 67], .int .i64 8, .bool false, .int .i64 0, .int .u64 0, .flt .f64 0, .str [], .sl K1]))) (y1 : (cellsAtA (stC (C.map Cell.sv)) (.ptr 0 4)).bind (takeN (some 3)) = some (.agg P1)) (q1 : P1.map SV.can0 = P1) (T2 : List SV → Option AV) (p2 : E.pure 89 = some T2) (P2 K2 : List SV) (e2 : T2 [.str [86, 50, 83, 116, 97, 116, 115], .agg P2] = some (.sv (.agg [.str [86, 50, 83, 116, 97, 116, 115], .int .i64 8, .bool false, .int .i64 0, .int .u64 0, .flt .f64 0, .str [], .sl K2]))) (y2 : (cellsAtA (stC (C.map Cell.sv)) (.ptr 0 7)).bind (takeN (some 18)) = some (.agg P2)) (q2 : P2.map SV.can0 = P2) (T3 : List SV → Option AV) (p3 : E.pure 90 = some T3) (P3 K3 : List SV) (e3 : T3 [.str [86, 51, 83, 116, 97, 116, 115], .agg P3] = some (.sv (.agg [.str [86, 51, 83, 116, 97, 116, 115], .int .i64 8, .bool false, .int .i64 0, .int .u64 0, .flt .f64 0, .str [], .sl K3]))) (y3 : (cellsAtA (stC (C.map Cell.sv)) (.ptr 0 25)).bind (takeN (some 22)) = some (.agg P3)) (q3 : P3.map SV.can0 = P3) (T4 : List SV → Option AV) (p4 : E.pure 91 = some T4) (P4 K4 : List SV) (e4 : T4 [.str [67, 108, 105, 101, 110, 116, 86, 52, 83, 116, 97, 116, 115], .agg P4] = some (.sv (.agg [.str [67, 108, 105, 101, 110, 116, 86, 52, 83, 116, 97, 116, 115], .int .i64 8, .bool false, .int .i64 0, .int .u64 0, .flt .f64 0, .str [], .sl K4]))) (y4 : (cellsAtA (stC (C.map Cell.sv)) (.ptr 0 47)).bind (takeN (some 59)) = some (.agg P4)) (q4 : P4.map SV.can0 = P4) :
    evPA E 1 36 [.str [], .agg C] = some (.sv (nodeV [] 8 false 0 0 0 [] [.agg [.str [78, 101, 116, 119, 111, 114, 107], .int .i64 8, .bool false, .int .i64 0, .int .u64 0, .flt .f64 0, .str [], .sl K0], .agg [.str [67, 108, 105, 101, 110, 116, 82, 80, 67], .int .i64 8, .bool false, .int .i64 0, .int .u64 0, .flt .f64 0, .str [], .sl K1], .agg [.str [86, 50, 83, 116, 97, 116, 115], .int .i64 8, .bool false, .int .i64 0, .int .u64 0, .flt .f64 0, .str [], .sl K2], .agg [.str [86, 51, 83, 116, 97, 116, 115], .int .i64 8, .bool false, .int .i64 0, .int .u64 0, .flt .f64 0, .str [], .sl K3], .agg [.str [67, 108, 105, 101, 110, 116, 86, 52, 83, 116, 97, 116, 115], .int .i64 8, .bool false, .int .i64 0, .int .u64 0, .flt .f64 0, .str [], .sl K4]])) := by
  obtain ⟨D, hD⟩ : ∃ D, C.map Cell.sv = D := ⟨_, rfl⟩
  have hDl : D.length = 106 := by rw [← hD, List.length_map, hl]
  rw [hD] at y0 y1 y2 y3 y4
  simp [stC, hDl] at y0
  simp [stC, hDl] at y1
  simp [stC, hDl] at y2
  simp [stC, hDl] at y3
  simp [stC, hDl] at y4
  unfold evPA
  simp only [h]
  unfold nodeV
  simp (maxSteps := 10000000) [c3094, hl, hD, hDl, p0, e0, y0, q0, p1, e1, y1, q1, p2, e2, y2, q2, p3, e3, y3, q3, p4, e4, y4, q4]

end Go.Ev

set_option linter.unusedSimpArgs false
set_option linter.unusedVariables false
namespace Go.Ev
open Go.Proofs

theorem fillK_zeros : ∀ fs : List (List UInt8), fillK fs (List.replicate fs.length 0) = fillK fs []
  | [] => rfl
  | f :: fs => by
    have ih := fillK_zeros fs
    simp only [List.length_cons, List.replicate_succ, fillK]
    rw [ih]

theorem u64s_can0 (ns : List Nat) : (u64s ns).map SV.can0 = u64s ns := by
  unfold u64s
  rw [List.map_map]; rfl

theorem zeros_u64 (k : Nat) : zeros k = u64s (List.replicate k 0) := by simp [zeros, u64s]

theorem part_u {d : List RowD} {lab : List UInt8} {k : Nat} {fs : List (List UInt8)} (hf : fs.length = k) (hk : ∀ r, rowOf d lab = some r → r.N.length = k) : ∃ ns, layPart d ⟨lab, u64s, zeros k⟩ = u64s ns ∧ ns.length = k ∧ fillK fs (numsOf d lab) = fillK fs ns := by
  unfold layPart
  rw [numsOf_row]
  simp only
  cases hv : rowOf d lab with
  | none => exact ⟨List.replicate k 0, zeros_u64 k, by simp, by subst hf; exact (fillK_zeros fs).symm⟩
  | some r => exact ⟨r.N, rfl, hk r hv, rfl⟩

theorem lay_split (pre post : List Lay) (p : Lay) (d : List RowD) : (layCells (pre ++ p :: post) d).map SV.can0 = (layCells pre d).map SV.can0 ++ ((layPart d p).map SV.can0 ++ (layCells post d).map SV.can0) := by
  unfold layCells
  simp

theorem lay_part {pre post : List Lay} {p : Lay} {d : List RowD} (hg : layGood pre d) {off k : Nat} (ho : (pre.map fun q => q.zero.length).sum = off) {B : List SV} (hB : (layPart d p).map SV.can0 = B) (hk : B.length = k) : (cellsAtA (stC (((layCells (pre ++ p :: post) d).map SV.can0).map Cell.sv)) (.ptr 0 off)).bind (takeN (some k)) = some (.agg (B.map SV.can0)) := by
  rw [cellsC, lay_split, hB]
  exact partC (by rw [List.length_map, lay_len hg, ho]) hk

theorem can0_can0 (v : SV) : v.can0.can0 = v.can0 := by cases v <;> rfl

theorem fillK_node : ∀ (fs : List (List UInt8)) (ns : List Nat), (∀ k ∈ fillK fs ns, IsNode k) ∧ (fillK fs ns).length = fs.length
  | [], ns => by cases ns <;> simp [fillK]
  | f :: fs, [] => by
    obtain ⟨h1, h2⟩ := fillK_node fs []
    unfold fillK
    refine ⟨fun k hk => ?_, by simp [h2]⟩
    rcases List.mem_cons.1 hk with rfl | hk
    · exact .mk _ _ _ _ _ _ _ _ (by simp) (by simp)
    · exact h1 k hk
  | f :: fs, n :: ns => by
    obtain ⟨h1, h2⟩ := fillK_node fs ns
    unfold fillK
    refine ⟨fun k hk => ?_, by simp [h2]⟩
    rcases List.mem_cons.1 hk with rfl | hk
    · exact .mk _ _ _ _ _ _ _ _ (by simp) (by simp)
    · exact h1 k hk

/-! ### The laws -/

end Go.Ev

set_option linter.unusedSimpArgs false
set_option linter.unusedVariables false
namespace Go.Ev
open Go.Proofs

theorem cliRow {rs : List RowD} (h : cliOk rs = true) {s : List UInt8} {r : RowD} (hr : rowOf rs s = some r) : nfWant nfCli s r.N.length = some r.N.length := by
  obtain ⟨m1, m2⟩ := rowOf_mem hr
  have := cliOk_want h m1
  rw [m2] at this
  exact this

def cliCs (rs : List RowD) : List SV := (layCells cliLay rs).map SV.can0

theorem cliCs_len {rs : List RowD} (h : cliOk rs = true) : (cliCs rs).length = 106 := by
  unfold cliOk nfOk at h
  simp only [Bool.and_eq_true, List.all_eq_true] at h
  unfold cliCs
  rw [List.length_map, lay_len (cliGood h.1)]
  rfl

theorem cliCs_can0 (rs : List RowD) : (cliCs rs).map SV.can0 = cliCs rs := by
  unfold cliCs
  rw [List.map_map]
  exact List.map_congr_left fun v _ => can0_can0 v

theorem part_s {d : List RowD} {lab : List UInt8} {k : Nat} {fs : List (List UInt8)} (hf : fs.length = k) (hk : ∀ r, rowOf d lab = some r → r.N.length = k) : ∃ ns, layPart d ⟨lab, fun ns => u64s (sw45 ns), zeros k⟩ = u64s ns ∧ ns.length = k ∧ fillK fs (sw45 (numsOf d lab)) = fillK fs ns := by
  unfold layPart
  rw [numsOf_row]
  simp only
  cases hv : rowOf d lab with
  | none => exact ⟨List.replicate k 0, zeros_u64 k, by simp, by subst hf; exact (fillK_zeros fs).symm⟩
  | some r => exact ⟨sw45 r.N, rfl, by rw [sw45_length]; exact hk r hv, rfl⟩

def S3094 (F : List SV → Option AV) : Prop := ∀ rs : List RowD, cliOk rs = true → rowsFit3 rs → F [.str [], .agg (cliCs rs)] = some (.sv (cliTree rs))

set_option maxRecDepth 100000 in
set_option maxHeartbeats 4000000 in
theorem ev3094 (E : Env) (h : E.code 36 = some c3094) (h3161 : Has E 87 S3161) (h3162 : Has E 88 S3162) (h3163 : Has E 89 S3163) (h3164 : Has E 90 S3164) (h3165 : Has E 91 S3165) : S3094 (autoF E 36) := by
  obtain ⟨T0, t0, z0⟩ := h3161
  obtain ⟨T1, t1, z1⟩ := h3162
  obtain ⟨T2, t2, z2⟩ := h3163
  obtain ⟨T3, t3, z3⟩ := h3164
  obtain ⟨T4, t4, z4⟩ := h3165
  intro rs hok hf
  have hok' := hok
  unfold cliOk nfOk at hok'
  simp only [Bool.and_eq_true, List.all_eq_true] at hok'
  have hgood := cliGood hok'.1
  have hlen := cliCs_len hok
  obtain ⟨n0, b0, l0, f0⟩ := part_u (d := rs) (lab := [110, 101, 116]) (k := 4) (fs := [[78, 101, 116, 67, 111, 117, 110, 116], [85, 68, 80, 67, 111, 117, 110, 116], [84, 67, 80, 67, 111, 117, 110, 116], [84, 67, 80, 67, 111, 110, 110, 101, 99, 116]]) rfl (fun r hr => by
    have hw := cli_names (cliRow hok hr)
    have hk : r.N.length = 4 := by simpa using hw
    exact hk)
  have b0' : (layPart rs ⟨[110, 101, 116], u64s, zeros 4⟩).map SV.can0 = u64s n0 := by rw [b0]; exact u64s_can0 _
  have y0 := lay_part (pre := cliLay.take 0) (post := cliLay.drop 1) (fun q hq => hgood q (List.mem_of_mem_take hq)) (off := 0) (k := 4) rfl b0' (by rw [u64s_length, l0])
  rw [u64s_can0] at y0
  have e0 := z0 [78, 101, 116, 119, 111, 114, 107] n0 l0
  obtain ⟨n1, b1, l1, f1⟩ := part_u (d := rs) (lab := [114, 112, 99]) (k := 3) (fs := [[82, 80, 67, 67, 111, 117, 110, 116], [82, 101, 116, 114, 97, 110, 115, 109, 105, 115, 115, 105, 111, 110, 115], [65, 117, 116, 104, 82, 101, 102, 114, 101, 115, 104, 101, 115]]) rfl (fun r hr => by
    have hw := cli_names (cliRow hok hr)
    have hk : r.N.length = 3 := by simpa using hw
    exact hk)
  have b1' : (layPart rs ⟨[114, 112, 99], u64s, zeros 3⟩).map SV.can0 = u64s n1 := by rw [b1]; exact u64s_can0 _
  have y1 := lay_part (pre := cliLay.take 1) (post := cliLay.drop 2) (fun q hq => hgood q (List.mem_of_mem_take hq)) (off := 4) (k := 3) rfl b1' (by rw [u64s_length, l1])
  rw [u64s_can0] at y1
  have e1 := z1 [67, 108, 105, 101, 110, 116, 82, 80, 67] n1 l1
  obtain ⟨n2, b2, l2, f2⟩ := part_u (d := rs) (lab := [112, 114, 111, 99, 50]) (k := 18) (fs := nf_v2) rfl (fun r hr => by
    have hw := cli_names (cliRow hok hr)
    have hk : r.N.length = 18 := by simpa using hw
    exact hk)
  have b2' : (layPart rs ⟨[112, 114, 111, 99, 50], u64s, zeros 18⟩).map SV.can0 = u64s n2 := by rw [b2]; exact u64s_can0 _
  have y2 := lay_part (pre := cliLay.take 2) (post := cliLay.drop 3) (fun q hq => hgood q (List.mem_of_mem_take hq)) (off := 7) (k := 18) rfl b2' (by rw [u64s_length, l2])
  rw [u64s_can0] at y2
  have e2 := z2 [86, 50, 83, 116, 97, 116, 115] n2 l2
  obtain ⟨n3, b3, l3, f3⟩ := part_u (d := rs) (lab := [112, 114, 111, 99, 51]) (k := 22) (fs := nf_v3) rfl (fun r hr => by
    have hw := cli_names (cliRow hok hr)
    have hk : r.N.length = 22 := by simpa using hw
    exact hk)
  have b3' : (layPart rs ⟨[112, 114, 111, 99, 51], u64s, zeros 22⟩).map SV.can0 = u64s n3 := by rw [b3]; exact u64s_can0 _
  have y3 := lay_part (pre := cliLay.take 3) (post := cliLay.drop 4) (fun q hq => hgood q (List.mem_of_mem_take hq)) (off := 25) (k := 22) rfl b3' (by rw [u64s_length, l3])
  rw [u64s_can0] at y3
  have e3 := z3 [86, 51, 83, 116, 97, 116, 115] n3 l3
  obtain ⟨n4, b4, l4, f4⟩ := part_s (d := rs) (lab := [112, 114, 111, 99, 52]) (k := 59) (fs := nf_v4Client) rfl (fun r hr => by
    have hw := cli_names (cliRow hok hr)
    have hk : r.N.length = 59 := by simpa using hw
    exact hk)
  have b4' : (layPart rs ⟨[112, 114, 111, 99, 52], (fun ns => u64s (sw45 ns)), zeros 59⟩).map SV.can0 = u64s n4 := by rw [b4]; exact u64s_can0 _
  have y4 := lay_part (pre := cliLay.take 4) (post := cliLay.drop 5) (fun q hq => hgood q (List.mem_of_mem_take hq)) (off := 47) (k := 59) rfl b4' (by rw [u64s_length, l4])
  rw [u64s_can0] at y4
  have e4 := z4 [67, 108, 105, 101, 110, 116, 86, 52, 83, 116, 97, 116, 115] n4 l4
  have k0 : cliKid rs ⟨[110, 101, 116], [78, 101, 116, 119, 111, 114, 107], [[78, 101, 116, 67, 111, 117, 110, 116], [85, 68, 80, 67, 111, 117, 110, 116], [84, 67, 80, 67, 111, 117, 110, 116], [84, 67, 80, 67, 111, 110, 110, 101, 99, 116]]⟩ = fillN [78, 101, 116, 119, 111, 114, 107] [[78, 101, 116, 67, 111, 117, 110, 116], [85, 68, 80, 67, 111, 117, 110, 116], [84, 67, 80, 67, 111, 117, 110, 116], [84, 67, 80, 67, 111, 110, 110, 101, 99, 116]] n0 := by
    unfold cliKid
    rw [if_neg (by decide)]
    unfold fillN
    simp only
    rw [f0]
  have k1 : cliKid rs ⟨[114, 112, 99], [67, 108, 105, 101, 110, 116, 82, 80, 67], [[82, 80, 67, 67, 111, 117, 110, 116], [82, 101, 116, 114, 97, 110, 115, 109, 105, 115, 115, 105, 111, 110, 115], [65, 117, 116, 104, 82, 101, 102, 114, 101, 115, 104, 101, 115]]⟩ = fillN [67, 108, 105, 101, 110, 116, 82, 80, 67] [[82, 80, 67, 67, 111, 117, 110, 116], [82, 101, 116, 114, 97, 110, 115, 109, 105, 115, 115, 105, 111, 110, 115], [65, 117, 116, 104, 82, 101, 102, 114, 101, 115, 104, 101, 115]] n1 := by
    unfold cliKid
    rw [if_neg (by decide)]
    unfold fillN
    simp only
    rw [f1]
  have k2 : cliKid rs ⟨[112, 114, 111, 99, 50], [86, 50, 83, 116, 97, 116, 115], nf_v2⟩ = fillN [86, 50, 83, 116, 97, 116, 115] nf_v2 n2 := by
    unfold cliKid
    rw [if_neg (by decide)]
    unfold fillN
    simp only
    rw [f2]
  have k3 : cliKid rs ⟨[112, 114, 111, 99, 51], [86, 51, 83, 116, 97, 116, 115], nf_v3⟩ = fillN [86, 51, 83, 116, 97, 116, 115] nf_v3 n3 := by
    unfold cliKid
    rw [if_neg (by decide)]
    unfold fillN
    simp only
    rw [f3]
  have k4 : cliKid rs ⟨[112, 114, 111, 99, 52], [67, 108, 105, 101, 110, 116, 86, 52, 83, 116, 97, 116, 115], nf_v4Client⟩ = fillN [67, 108, 105, 101, 110, 116, 86, 52, 83, 116, 97, 116, 115] nf_v4Client n4 := by
    unfold cliKid
    rw [if_pos (by rfl)]
    unfold fillN
    simp only
    rw [f4]
  have hm : nfCli.map (cliKid rs) = [cliKid rs ⟨[110, 101, 116], [78, 101, 116, 119, 111, 114, 107], [[78, 101, 116, 67, 111, 117, 110, 116], [85, 68, 80, 67, 111, 117, 110, 116], [84, 67, 80, 67, 111, 117, 110, 116], [84, 67, 80, 67, 111, 110, 110, 101, 99, 116]]⟩, cliKid rs ⟨[114, 112, 99], [67, 108, 105, 101, 110, 116, 82, 80, 67], [[82, 80, 67, 67, 111, 117, 110, 116], [82, 101, 116, 114, 97, 110, 115, 109, 105, 115, 115, 105, 111, 110, 115], [65, 117, 116, 104, 82, 101, 102, 114, 101, 115, 104, 101, 115]]⟩, cliKid rs ⟨[112, 114, 111, 99, 50], [86, 50, 83, 116, 97, 116, 115], nf_v2⟩, cliKid rs ⟨[112, 114, 111, 99, 51], [86, 51, 83, 116, 97, 116, 115], nf_v3⟩, cliKid rs ⟨[112, 114, 111, 99, 52], [67, 108, 105, 101, 110, 116, 86, 52, 83, 116, 97, 116, 115], nf_v4Client⟩] := rfl
  rw [k0, k1, k2, k3, k4] at hm
  unfold cliTree
  rw [hm]
  refine autoA_sv (n := 1) ?_ rfl
  exact core3094 E h (cliCs rs) hlen T0 t0 _ _ e0 y0 (u64s_can0 _) T1 t1 _ _ e1 y1 (u64s_can0 _) T2 t2 _ _ e2 y2 (u64s_can0 _) T3 t3 _ _ e3 y3 (u64s_can0 _) T4 t4 _ _ e4 y4 (u64s_can0 _)

def S3093 (F : List SV → Option AV) : Prop := ∀ rs : List RowD, cliOk rs = true → rowsFit3 rs → F [.str [], .ref (cliCs rs), .fn 36 [] []] = some (.sv (cliTree rs))

theorem ev3093 (E : Env) (h : E.code 35 = some c3093) (h94 : Has E 36 S3094) : S3093 (autoF E 35) := by
  obtain ⟨F, hp, hF⟩ := h94
  intro rs hok hf
  have hF1 := hF rs hok hf
  have hl := cliCs_len hok
  have h7 : (cliCs rs).take 106 = cliCs rs := List.take_of_length_le (by omega)
  have h8 := cliCs_can0 rs
  refine autoA_sv (n := 1) ?_ rfl
  unfold evPA
  simp only [h]
  unfold cliTree nodeV at *
  generalize nfCli.map (cliKid rs) = K at *
  generalize cliCs rs = cs at *
  simp [c3093, hp, hF1, hl, h7, h8]

def S3092 (F : List SV → Option AV) : Prop := ∀ rs : List RowD, cliOk rs = true → rowsFit3 rs → F [.ref (cliCs rs)] = some (.sv (cliTree rs))

theorem ev3092 (E : Env) (h : E.code 34 = some c3092) (h93 : Has E 35 S3093) : S3092 (autoF E 34) := by
  obtain ⟨F, hp, hF⟩ := h93
  intro rs hok hf
  have hF1 := hF rs hok hf
  refine autoA_sv (n := 1) ?_ rfl
  unfold evPA
  simp only [h]
  unfold cliTree nodeV at *
  generalize nfCli.map (cliKid rs) = K at *
  generalize cliCs rs = cs at *
  simp [c3092, hp, hF1]

theorem evF3089 (E : Env) (h : E.code 31 = some c3089) (F : List SV → Option AV) (hp : E.pure 32 = some F) (s : List UInt8) (cs : List SV) (hF : F [.str s] = some (.sv (.tup [.ref cs, .nilI]))) (n : Nat) (js : List Box) : evF E (n + 1) 31 [.ptr 0 0] (.live [.sv (.str s)] :: js) = some (.sv (.tup [.ref cs, .nilI]), .live [.sv (.str s)] :: js) := by
  simp only [evF, h]
  simp [c3089, List.replicate, hp, hF]

theorem evF3091 (E : Env) (h : E.code 33 = some c3091) (hq : E.quiet 86 = true) (h89 : E.code 31 = some c3089) (hp89 : E.pure 31 = none) (F G : List SV → Option AV) (hp : E.pure 32 = some F) (hg : E.pure 34 = some G) (s : List UInt8) (cs K : List SV) (hF : F [.str s] = some (.sv (.tup [.ref cs, .nilI])))
    (hG : G [.ref cs] = some (.sv (.agg [.str [], .int .i64 8, .bool false, .int .i64 0, .int .u64 0, .flt .f64 0, .str [], .sl K]))) (n : Nat) (z : Box) :
    ∃ js, evF E (n + 2) 33 [.clo 31 [] [.ptr 0 0], .sv (.fn 34 [] [])] [.live [.sv (.str s)], z] = some (.sv (.tup [.agg [.str [], .int .i64 8, .bool false, .int .i64 0, .int .u64 0, .flt .f64 0, .str [], .sl K], .int .i64 0]), .live [.sv (.str s)] :: z :: js) := by
  have e89 := evF3089 E h89 F hp s cs hF n
  refine ⟨[.live [.sv (.str []), .sv (.int .i64 8), .sv (.bool false), .sv (.int .i64 0), .sv (.int .u64 0), .sv (.flt .f64 0), .sv (.str []), .sv (.sl K)], .live [.sv (.int .i64 0)]], ?_⟩
  rw [show n + 2 = (n + 1) + 1 from rfl, evF]
  simp only [h]
  simp [c3091, List.replicate, hp89, e89, hg, hG, hq]

def S3032 (F : List SV → Option AV) : Prop := SDoorG cliRd cliOk cliTree F

theorem ev3032 (E : Env) (h : E.code 13 = some c3032) (hq : E.quiet 86 = true) (h89 : E.code 31 = some c3089) (hp89 : E.pure 31 = none) (h91 : E.code 33 = some c3091) (hp91 : E.pure 33 = none) (h90 : Has E 32 S3090) (h92 : Has E 34 S3092) : S3032 (autoF E 13) := by
  obtain ⟨F, hp, hF⟩ := h90
  obtain ⟨G, hg, hG⟩ := h92
  intro s rs hr ho hf hs
  obtain ⟨_, rfl⟩ := hr
  have hF1 := hF rs ho hf hs
  have hG1 := hG rs ho hf
  obtain ⟨js, e⟩ := evF3091 E h91 hq h89 hp89 F G hp hg (nfText rs) (cliCs rs) _ hF1 hG1 1 (.live [.sv (.str []), .sv (.int .i64 0), .sv (.bool false), .sv (.int .i64 0), .sv (.int .u64 0), .sv (.flt .f64 0), .sv (.str []), .sv .nilS])
  rw [show 1 + 2 = 3 from rfl] at e
  refine autoA_sv (n := 3) ?_ rfl
  unfold evPA
  simp only [h]
  unfold cliTree nodeV at *
  generalize nfCli.map (cliKid rs) = K at *
  generalize nfText rs = s at *
  simp [c3032, hp91, e]

/-! ### The laws -/

theorem cliKid_node (rs : List RowD) (g : Grp) (hg : g.fields.length < 1000) : IsNode (cliKid rs g) := by
  unfold cliKid
  obtain ⟨h1, h2⟩ := fillK_node g.fields (if g.label = sP4 then sw45 (numsOf rs g.label) else numsOf rs g.label)
  exact .mk _ _ _ _ _ _ _ _ (by rw [h2]; omega) h1

theorem cliLaw : LawG cliRd cliOk nfText cliTree where
  back := fun rs _ ho => ⟨ho, rfl⟩
  node := fun rs _ _ => by
    have h5 : nfCli.length = 5 := rfl
    refine .mk _ _ _ _ _ _ _ _ (by rw [List.length_map, h5]; decide) fun k hk => ?_
    obtain ⟨g, hg, rfl⟩ := List.mem_map.1 hk
    exact cliKid_node rs g (nfCli_small.2 g hg)

def S9nc (F : List SV → Option AV) : Prop := S9g 15 12 13 F
def S13nc (F : List SV → Option AV) : Prop := S9g 15 11 13 F
def S1016nc (F : List SV → Option AV) : Prop := S1016g 11 12 13 F

theorem ev9nc (E : Env) (h : E.code 16 = some c9) (hR : Has E 15 S3033) (hT : Has E 12 S3031) (hD : Has E 13 S3032) (h25 : E.pure 22 = some F25) (h26 : E.pure 23 = some F26) (h27 : E.pure 24 = some F27) : S9nc (autoF E 16) := ev9G cliLaw E h _ _ _ hR hT hD h25 h26 h27
theorem ev13nc (E : Env) (h : E.code 14 = some c13) (hR : Has E 15 S3033) (hP : Has E 11 S3030) (hD : Has E 13 S3032) (h25 : E.pure 22 = some F25) (h26 : E.pure 23 = some F26) (h27 : E.pure 24 = some F27) : S13nc (autoF E 14) := ev13G cliLaw E h _ _ _ hR hP hD h25 h26 h27
theorem ev1016nc (E : Env) (h : E.code 10 = some c1016) (hP : Has E 11 S3030) (hT : Has E 12 S3031) (hD : Has E 13 S3032) (h25 : E.pure 22 = some F25) (h26 : E.pure 23 = some F26) (h27 : E.pure 24 = some F27) : S1016nc (autoF E 10) := ev1016G cliLaw E h _ _ _ hP hT hD h25 h26 h27

theorem ev3011 (E : Env) (h : E.code 5 = some c3011) (hL : Has E 16 S9nc) (s : List UInt8) (n : Nat) : evP E n 5 [.str s] = some (.sv (.bool true)) := by
  obtain ⟨F, hp, hF⟩ := hL
  have hF1 := hF s
  unfold evP
  simp only [h]
  by_cases hs : 2147483647 < s.length
  · have e : (2147483647 : Int) < (s.length : Int) := by omega
    simp [c3011, List.replicate, e]
  · have e : ¬ (2147483647 : Int) < (s.length : Int) := by omega
    simp [c3011, List.replicate, e, hp, hF1]

theorem ev3010 (E : Env) (h : E.code 4 = some c3010) (hL : Has E 14 S13nc) (s : List UInt8) (n : Nat) : evP E n 4 [.str s] = some (.sv (.bool true)) := by
  obtain ⟨F, hp, hF⟩ := hL
  have hF1 := hF s
  unfold evP
  simp only [h]
  by_cases hs : 2147483647 < s.length
  · have e : (2147483647 : Int) < (s.length : Int) := by omega
    simp [c3010, List.replicate, e]
  · have e : ¬ (2147483647 : Int) < (s.length : Int) := by omega
    simp [c3010, List.replicate, e, hp, hF1]

theorem ev3009 (E : Env) (h : E.code 3 = some c3009) (h15 : E.pure 9 = some F1015) (h16 : Has E 10 S1016nc) (l : List RowD) (hn : ∀ r ∈ l, ∀ n ∈ r.N, n < 18446744073709551616) (n : Nat) : evP E n 3 [.sl (rowsSV l)] = some (.sv (.bool true)) := by
  obtain ⟨G, hp, hG⟩ := h16
  unfold evP
  simp only [h]
  have hF := F1015_eq l
  cases hz : zzRows l with
  | false => rw [hz] at hF; simp [c3009, List.replicate, h15, hF]
  | true =>
    rw [hz] at hF
    have hF2 := hG l hz hn
    simp [c3009, List.replicate, h15, hF, hp, hF2]

end Go.Ev

set_option linter.unusedSimpArgs false
set_option linter.unusedVariables false
namespace Go.Ev
open Go.Proofs
variable {P : Program} {E : Env}

/-- A law of one text. -/
theorem ptOf (B : Base P E) {f : Nat} (h : ∀ s n, evP E n f [.str s] = some (.sv (.bool true))) : PureFn P E f F8x := by
  refine PureFn.of B.m B.T B.Q B.P fun vs r hF => ?_
  unfold F8x at hF
  split at hF
  · rename_i s
    simp only [Option.some.injEq] at hF; subst hF
    exact ⟨1, _, h s 1, .inl rfl⟩
  · cases hF

/-- A law of rows. -/
theorem pbOf (B : Base P E) {f : Nat} (h : ∀ l : List RowD, (∀ r ∈ l, ∀ n ∈ r.N, n < 18446744073709551616) → ∀ n, evP E n f [.sl (rowsSV l)] = some (.sv (.bool true))) : PureFn P E f F1003 := by
  refine PureFn.of B.m B.T B.Q B.P fun vs r hF => ?_
  unfold F1003 at hF
  split at hF
  · rename_i l
    obtain ⟨⟨h1, h2⟩, hr⟩ := onlyIf_some hF
    simp only [Option.some.injEq] at hr; subst hr
    refine ⟨1, _, ?_, .inl rfl⟩
    have := h (l.map unrow) h2 1
    rw [← h1] at this
    exact this
  · cases hF

end Go.Ev

set_option linter.unusedSimpArgs false
set_option linter.unusedVariables false
namespace Go.Ev
open Go.Proofs
variable {P : Program} {E : Env}

theorem ev3090c (E : Env) (h : E.code 32 = some c3090) (h3154 : Has E 80 S3154) (h3155 : Has E 81 S3155) (h3156 : Has E 82 S3156) (h3157 : Has E 83 S3157) (h3158 : Has E 84 S3158) (h53 : Has E 79 S3153) (h127 : E.pure 76 = some F127) (h88 : E.code 75 = some c88) (h90 : E.code 77 = some c90) (hp88 : E.pure 75 = none) (hp90 : E.pure 77 = none) (h87 : E.code 74 = some c87) (h128 : E.code 85 = some c128) (hp87 : E.pure 74 = none) (hp128 : E.pure 85 = none) : S3090 (autoF E 32) :=
  ev3090 E h ⟨h3154, h3155, h3156, h3157, h3158, h53, h127, h88, h90, hp88, hp90⟩ h87 h128 hp87 hp128

end Go.Ev

set_option linter.unusedSimpArgs false
set_option linter.unusedVariables false
namespace Go.Proofs.YtgeaomghbiamgaaGreatDoor
open Go.ChangeShapes Go.WideShapes Go.ChangeAt Go.RowKit Go.Ev

theorem own : ownKnob Tryz.prog.godebug = none := by kernel_rfl

def laid15 : List (String × DataW Unit) := Rows.fnNfsClientBackRow.laid

theorem glob_none {W : World} {F : Frz} (g : Nat) (h : globT g = []) : RepS F (.ref (globT g)) (.pointer (some ⟨g, 0, none⟩)) := by
  rw [h]
  exact .ref [] g 0 (fun _ => undef) (fun j hj => by simp at hj) (fun j x hx => by simp at hx) (fun j x hx => by simp at hx)

theorem cells_of {W : World} {name : String} {g : Nat} {cs : Array Value} (hg : Tryz.prog.globalNamed name = some g) (hv : W.var? Tryz.prog name = some cs) (j : Nat) (v : Value) (h : cs.toList[j]? = some v) : W.cell? ⟨g, j, none⟩ = some v := by
  rw [World.var?_cell hg hv j]
  simpa using h

theorem glob_ok {W : World} (hL : laidMetH Tryz.prog laid15 W) : GlobF E0 (fun b o v => W.cell? ⟨b, o, none⟩ = some v) := by
  rw [MakeChecks.laidMetH_plain _ _ _ (by kernel_rfl)] at hL
  obtain ⟨ps, ⟨g0, t0, cs0, f0, p0, q0, hg0, ht0, hv0, hd0, ⟨g1, t1, cs1, f1, p1, q1, hg1, ht1, hv1, hd1, ⟨g2, t2, cs2, f2, p2, q2, hg2, ht2, hv2, hd2, ⟨g3, t3, cs3, f3, p3, q3, hg3, ht3, hv3, hd3, ⟨g4, t4, cs4, f4, p4, q4, hg4, ht4, hv4, hd4, ⟨g5, t5, cs5, f5, p5, q5, hg5, ht5, hv5, hd5, ⟨g6, t6, cs6, f6, p6, q6, hg6, ht6, hv6, hd6, ⟨g7, t7, cs7, f7, p7, q7, hg7, ht7, hv7, hd7, ⟨g8, t8, cs8, f8, p8, q8, hg8, ht8, hv8, hd8, ⟨g9, t9, cs9, f9, p9, q9, hg9, ht9, hv9, hd9, ⟨g10, t10, cs10, f10, p10, q10, hg10, ht10, hv10, hd10, ⟨g11, t11, cs11, f11, p11, q11, hg11, ht11, hv11, hd11, ⟨g12, t12, cs12, f12, p12, q12, hg12, ht12, hv12, hd12, _, _⟩, _⟩, _⟩, _⟩, _⟩, _⟩, _⟩, _⟩, _⟩, _⟩, _⟩, _⟩, _⟩, _⟩ := hL
  clear hd0 hd1 hd5 hd7 hd9 hd10 hd11
  obtain rfl := Option.some.inj ((show Tryz.prog.globalNamed "internal/strconv.float32info" = some 7 by kernel_rfl).symm.trans hg2)
  obtain rfl := Option.some.inj ((show Tryz.prog.globalNamed "internal/strconv.float64info" = some 9 by kernel_rfl).symm.trans hg3)
  obtain rfl := Option.some.inj ((show Tryz.prog.globalNamed "internal/strconv.optimize" = some 8 by kernel_rfl).symm.trans hg4)
  obtain rfl := Option.some.inj ((show Tryz.prog.globalNamed "internal/strconv.float64pow10" = some 12 by kernel_rfl).symm.trans hg6)
  obtain rfl := Option.some.inj ((show Tryz.prog.globalNamed "internal/strconv.uint64pow10" = some 13 by kernel_rfl).symm.trans hg8)
  obtain rfl := Option.some.inj ((show Tryz.prog.globalNamed "strings.asciiSpace" = some 1 by kernel_rfl).symm.trans hg12)
  obtain rfl := Option.some.inj ((show (Tryz.prog.globals[7]?).map (·.type) = some 252 by kernel_rfl).symm.trans ht2)
  obtain rfl := Option.some.inj ((show (Tryz.prog.globals[9]?).map (·.type) = some 252 by kernel_rfl).symm.trans ht3)
  obtain rfl := Option.some.inj ((show (Tryz.prog.globals[8]?).map (·.type) = some 4 by kernel_rfl).symm.trans ht4)
  obtain rfl := Option.some.inj ((show (Tryz.prog.globals[12]?).map (·.type) = some 200 by kernel_rfl).symm.trans ht6)
  obtain rfl := Option.some.inj ((show (Tryz.prog.globals[13]?).map (·.type) = some 291 by kernel_rfl).symm.trans ht8)
  obtain rfl := Option.some.inj ((show (Tryz.prog.globals[1]?).map (·.type) = some 172 by kernel_rfl).symm.trans ht12)
  have x12 : Rows.laid_strings_asciiSpace = (.agg ((lits Rows.laid_strings_asciiSpace).map .lit) : DataW Unit) := by kernel_rfl
  have x8 : Rows.laid_internal_strconv_uint64pow10 = (.agg ((lits Rows.laid_internal_strconv_uint64pow10).map .lit) : DataW Unit) := by kernel_rfl
  have x2 : Rows.laid_internal_strconv_float32info = (.agg ((lits Rows.laid_internal_strconv_float32info).map .lit) : DataW Unit) := by kernel_rfl
  have x3 : Rows.laid_internal_strconv_float64info = (.agg ((lits Rows.laid_internal_strconv_float64info).map .lit) : DataW Unit) := by kernel_rfl
  have x4 : Rows.laid_internal_strconv_optimize = (.lit (unlit Rows.laid_internal_strconv_optimize) : DataW Unit) := by kernel_rfl
  have x6 : Rows.laid_internal_strconv_float64pow10 = (.slice ((lits Rows.laid_internal_strconv_float64pow10).map .lit) [] : DataW Unit) := by kernel_rfl
  have y12 := (congrArg (fun d => some (d, p12)) x12)
  have k12 := lits_of_array (e := 5) (n := 256) Tryz.underlying172 (by kernel_rfl) (by kernel_rfl) (hd12.trans (congrArg (fun d => some (d, p12)) x12))
  have k8 := lits_of_array (e := 39) (n := 20) Tryz.underlying291 (by kernel_rfl) (by kernel_rfl) (hd8.trans (congrArg (fun d => some (d, p8)) x8))
  have hst : ∀ (i : Nat) (f : Field), (#[{ name := "mantbits", type := 216, offset := 0, embedded := false, tag := "", pkgPath := "internal/strconv", byteOffset := 0 }, { name := "expbits", type := 216, offset := 1, embedded := false, tag := "", pkgPath := "internal/strconv", byteOffset := 8 }, { name := "bias", type := 3, offset := 2, embedded := false, tag := "", pkgPath := "internal/strconv", byteOffset := 16 }] : Array Field)[i]? = some f → f.offset = i ∧ Tryz.prog.cellsOf f.type = 1 := by
    intro i f hf
    have ct174 : Tryz.prog.cellsOf 216 = 1 := by kernel_rfl
    have ct3 : Tryz.prog.cellsOf 3 = 1 := by kernel_rfl
    match i, hf with
    | 0, hf => simp at hf; subst hf; exact ⟨rfl, ct174⟩
    | 1, hf => simp at hf; subst hf; exact ⟨rfl, ct174⟩
    | 2, hf => simp at hf; subst hf; exact ⟨rfl, ct3⟩
    | n + 3, hf => simp at hf
  have k2 := lits_of_struct Tryz.underlying252 hst (by kernel_rfl) (hd2.trans (congrArg (fun d => some (d, p2)) x2))
  have k3 := lits_of_struct Tryz.underlying252 hst (by kernel_rfl) (hd3.trans (congrArg (fun d => some (d, p3)) x3))
  have k4 := lit_cells (hd4.trans (congrArg (fun d => some (d, p4)) x4))
  have k6 := ref_of_slice (g := 12) (F := fun b o v => W.cell? ⟨b, o, none⟩ = some v) (e := 40) Tryz.underlying200 (by kernel_rfl) (by rw [← List.length_pos_iff]; exact of_decide_eq_true (by kernel_rfl)) (hd6.trans (congrArg (fun d => some (d, p6)) x6)) (fun _ _ _ h => h) (cells_of hg6 hv6)
  intro g
  have hg : g = 1 ∨ g = 7 ∨ g = 8 ∨ g = 9 ∨ g = 13 ∨ g = 12 ∨ globT g = [] := by
    unfold globT
    split <;> simp
  rcases hg with rfl | rfl | rfl | rfl | rfl | rfl | h
  · exact ref_of_lits k12 (cells_of hg12 hv12)
  · exact ref_of_lits k2 (cells_of hg2 hv2)
  · exact ref_of_lits (ls := [unlit Rows.laid_internal_strconv_optimize]) k4 (cells_of hg4 hv4)
  · exact ref_of_lits k3 (cells_of hg3 hv3)
  · exact ref_of_lits k8 (cells_of hg8 hv8)
  · exact k6
  · exact glob_none (W := W) g h

end Go.Proofs.YtgeaomghbiamgaaGreatDoor

set_option linter.unusedSimpArgs false
set_option linter.unusedVariables false
namespace Go.Ev
open Go.Proofs Go.ChangeShapes Go.WideShapes

/-- The cells of a world, all of them. -/
def allC (w : World) : Frz := fun b o v => w.cell? ⟨b, o, none⟩ = some v

theorem spot_none {w : World} {a : Addr} {v : Value} (h : w.cell? a = some v) : a.spot = none := by
  unfold World.cell? at h
  split at h
  · split at h
    · simp at h
    · rename_i hs; simpa using hs
  · simp at h

theorem add_off {b o : Nat} (i : Nat) : (⟨b, o, none⟩ : Addr).add i = ⟨b, o + i, none⟩ := by
  unfold Addr.add
  split
  · rename_i h; subst h; rfl
  · rfl

/-- A slice whose elements take k cells each. -/
theorem rep_slice {w : World} {a : Addr} {len cap k : Nat} {xs : List SV} (hk : 0 < k) (hx : xs.length = len) (hcap : len ≤ cap) (hl : ∀ x ∈ xs, x.cells.length = k)
    (ho : ∀ (j : Nat) (x : SV), (flat xs)[j]? = some x → x.one = true) (hr : ∀ (j : Nat) (x : SV), (flat xs)[j]? = some x → ∃ v, w.cell? (a.add j) = some v ∧ RepS (allC w) x v) : RepS (allC w) (.sl xs) (.slice (some a) len cap) := by
  cases xs with
  | nil => simp only [List.length_nil] at hx; subst hx; exact .slE _ _
  | cons x xs =>
    subst hx
    have hfl : (flat (x :: xs)).length = (x :: xs).length * k := by
      have : ∀ ys : List SV, (∀ y ∈ ys, y.cells.length = k) → (flat ys).length = ys.length * k := by
        intro ys
        induction ys with
        | nil => intro _; simp [flat]
        | cons y ys ih => intro h; rw [flat_cons, List.length_append, ih (fun z hz => h z (by simp [hz])), h y (by simp), List.length_cons, Nat.succ_mul]; omega
      exact this _ hl
    have hpos : 0 < (flat (x :: xs)).length := by rw [hfl]; exact Nat.mul_pos (by simp) hk
    obtain ⟨v0, hv0, _⟩ := hr 0 _ (List.getElem?_eq_getElem hpos)
    have hs : a.spot = none := spot_none (by simpa [Addr.add] using hv0)
    obtain ⟨b, o, s⟩ := a
    simp only at hs
    subst hs
    refine .sl _ b o cap k (fun j => (w.cell? ⟨b, o + j, none⟩).getD undef) hk (by simp) hcap hl (fun j hj => ?_) ho (fun j y hy => ?_)
    · obtain ⟨v, hv, _⟩ := hr j _ (List.getElem?_eq_getElem (by rw [hfl]; exact hj))
      rw [add_off] at hv
      show w.cell? ⟨b, o + j, none⟩ = some _
      rw [hv]; rfl
    · obtain ⟨v, hv, h1⟩ := hr j y hy
      rw [add_off] at hv
      simp only [hv, Option.getD_some]
      exact h1

theorem flat_one {l : List SV} (h : ∀ x ∈ l, x.cells = [x]) : flat l = l := by
  induction l with
  | nil => rfl
  | cons x l ih => rw [flat_cons, h x (by simp), ih (fun y hy => h y (by simp [hy]))]; rfl

section
variable {H : Type} {enc : TypeId × Value → H} {P : Program} {w : World} {base : Nat} {spare : Nat → Bool} {held : Bool}

theorem rep_strs {t e : TypeId} {fuel : Nat} {cs : List Value} {x : DataW H × List MemPlace} (ht : P.underlying t = some (.slice e)) (he : P.underlying e = some .string) (hc : P.cellsOf e = 1)
    (h : DataW.trod enc P w base spare held fuel t cs = some x) : ∃ (v : Value) (S : List (List UInt8)), cs = [v] ∧ RepS (allC w) (.sl (Ev.strs S)) v := by
  rcases open_strings ht he hc h with ⟨rfl, _⟩ | ⟨a, len, cap, ss, rfl, _, hl, _, hss, _, hcell, _⟩
  · exact ⟨_, [], rfl, .slE _ _⟩
  · have hle : len ≤ ss.length := by rw [hss]; split <;> omega
    refine ⟨_, (ss.take len).map (fun s => s.data.toList), rfl, ?_⟩
    have hone : ∀ x ∈ Ev.strs ((ss.take len).map (fun s => s.data.toList)), x.cells = [x] := by
      intro x hx
      simp only [Ev.strs, List.mem_map] at hx
      obtain ⟨_, _, rfl⟩ := hx
      rfl
    refine rep_slice (k := 1) (by omega) (by simp [Ev.strs]; omega) hl (fun x hx => by rw [hone x hx]; rfl) (fun j x hx => ?_) (fun j x hx => ?_)
    · rw [flat_one hone] at hx
      simp only [Ev.strs, List.getElem?_map, Option.map_eq_some_iff] at hx
      obtain ⟨_, _, rfl⟩ := hx
      rfl
    · rw [flat_one hone] at hx
      simp only [Ev.strs, List.getElem?_map, Option.map_eq_some_iff] at hx
      obtain ⟨_, ⟨s, hs, rfl⟩, rfl⟩ := hx
      have hj : j < len := by have := (List.getElem?_eq_some_iff.1 hs).1; simp at this; omega
      rw [List.getElem?_take_of_lt hj] at hs
      refine ⟨_, hcell j (by omega), ?_⟩
      rw [List.getD_eq_getElem?_getD, hs]
      have e : (⟨s.data.toList.toArray⟩ : ByteArray) = s := by simp
      exact e ▸ RepS.str s.data.toList

theorem rep_ints {t e : TypeId} {fuel : Nat} {cs : List Value} {x : DataW H × List MemPlace} (ht : P.underlying t = some (.slice e)) (he : P.underlying e = some (.int .u64)) (hc : P.cellsOf e = 1)
    (h : DataW.trod enc P w base spare held fuel t cs = some x) : ∃ (v : Value) (N : List Nat), cs = [v] ∧ RepS (allC w) (.sl (u64s N)) v ∧ ∀ n ∈ N, n < 18446744073709551616 := by
  rcases open_ints ht he hc h with ⟨rfl, _⟩ | ⟨a, len, cap, zs, rfl, _, hl, _, hss, _, hcell, hwf⟩
  · exact ⟨_, [], rfl, .slE _ _, by simp⟩
  · have hle : len ≤ zs.length := by rw [hss]; split <;> omega
    have hz : ∀ z ∈ zs, 0 ≤ z ∧ z < 18446744073709551616 := by
      intro z hz
      have := hwf z hz
      have e1 : IntKind.u64.min = 0 := rfl
      have e2 : IntKind.u64.max = 18446744073709551615 := rfl
      simp only [Lit.wf, e1, e2, Bool.and_eq_true, decide_eq_true_eq] at this
      omega
    refine ⟨_, (zs.take len).map Int.toNat, rfl, ?_, ?_⟩
    · have hone : ∀ x ∈ u64s ((zs.take len).map Int.toNat), x.cells = [x] := by
        intro x hx
        simp only [u64s, List.mem_map] at hx
        obtain ⟨_, _, rfl⟩ := hx
        rfl
      refine rep_slice (k := 1) (by omega) (by simp [u64s]; omega) hl (fun x hx => by rw [hone x hx]; rfl) (fun j x hx => ?_) (fun j x hx => ?_)
      · rw [flat_one hone] at hx
        simp only [u64s, List.getElem?_map, Option.map_eq_some_iff] at hx
        obtain ⟨_, _, rfl⟩ := hx
        rfl
      · rw [flat_one hone] at hx
        simp only [u64s, List.getElem?_map, Option.map_eq_some_iff] at hx
        obtain ⟨_, ⟨s, hs, rfl⟩, rfl⟩ := hx
        have hj : j < len := by have := (List.getElem?_eq_some_iff.1 hs).1; simp at this; omega
        rw [List.getElem?_take_of_lt hj] at hs
        refine ⟨_, hcell j (by omega), ?_⟩
        rw [List.getD_eq_getElem?_getD, hs]
        have := (hz s (List.mem_of_getElem? hs)).1
        rw [Int.toNat_of_nonneg this]
        exact .int _ _
    · intro n hn
      obtain ⟨z, hz1, rfl⟩ := List.mem_map.1 hn
      have := hz z (List.mem_of_mem_take hz1)
      omega

/-- One row: three cells. -/
theorem rep_row {t te tu : TypeId} {fs : Array Field} {f0 f1 f2 : Field} {fuel : Nat} {cs : List Value} {x : DataW H × List MemPlace} (ht : P.underlying t = some (.struct fs)) (hf0 : fs[0]? = some f0) (hf1 : fs[1]? = some f1) (hf2 : fs[2]? = some f2)
    (o0 : f0.offset = 0) (o1 : f1.offset = 1) (o2 : f2.offset = 2) (c0 : P.cellsOf f0.type = 1) (c1 : P.cellsOf f1.type = 1) (c2 : P.cellsOf f2.type = 1) (ct : P.cellsOf t = 3)
    (u0 : P.underlying f0.type = some .string) (u1 : P.underlying f1.type = some (.slice tu)) (u2 : P.underlying f2.type = some (.slice te)) (v1 : P.underlying tu = some (.int .u64)) (v2 : P.underlying te = some .string) (w1 : P.cellsOf tu = 1) (w2 : P.cellsOf te = 1)
    (h : DataW.trod enc P w base spare held fuel t cs = some x) : ∃ (r : RowD) (a b c : Value), cs = [a, b, c] ∧ RepS (allC w) (.str r.name) a ∧ RepS (allC w) (.sl (u64s r.N)) b ∧ RepS (allC w) (.sl (Ev.strs r.S)) c ∧ ∀ n ∈ r.N, n < 18446744073709551616 := by
  obtain ⟨xs, n, rfl, _, hcl, hxl, hx⟩ := DataW.trod_struct ht h
  rw [ct] at hcl
  match cs, hcl with
  | [a, b, c], _ =>
    have hlt : ∀ {i : Nat} {f : Field}, fs[i]? = some f → i < xs.length := fun hf => by rw [hxl]; exact (Array.getElem?_eq_some_iff.1 hf).1
    have g0 := hx 0 f0 hf0
    have g1 := hx 1 f1 hf1
    have g2 := hx 2 f2 hf2
    rw [List.getElem?_eq_getElem (hlt hf0), o0, c0] at g0
    rw [List.getElem?_eq_getElem (hlt hf1), o1, c1] at g1
    rw [List.getElem?_eq_getElem (hlt hf2), o2, c2] at g2
    simp only [List.drop_zero, List.drop_succ_cons, List.take_succ_cons, List.take_zero] at g0 g1 g2
    obtain ⟨s, e0, _, _⟩ := DataW.trod_string u0 g0
    obtain ⟨b', N, e1, r1, k1⟩ := rep_ints u1 v1 w1 g1
    obtain ⟨c', S, e2, r2⟩ := rep_strs u2 v2 w2 g2
    simp only [List.cons.injEq, and_true] at e0 e1 e2
    subst e0; subst e1; subst e2
    refine ⟨⟨s.data.toList, N, S⟩, _, _, _, rfl, ?_, r1, r2, k1⟩
    have e : (⟨s.data.toList.toArray⟩ : ByteArray) = s := by simp
    exact e ▸ RepS.str s.data.toList

end

theorem row_cells (r : RowD) : r.sv.cells = [.str r.name, .sl (u64s r.N), .sl (Ev.strs r.S)] := rfl

theorem flat_rows_get : ∀ (l : List RowD) (j : Nat) (x : SV), (flat (rowsSV l))[j]? = some x → ∃ r, l[j / 3]? = some r ∧ (r.sv.cells)[j % 3]? = some x
  | [], j, x, h => by simp [rowsSV, flat] at h
  | r :: l, j, x, h => by
    have e : flat (rowsSV (r :: l)) = r.sv.cells ++ flat (rowsSV l) := rfl
    rw [e] at h
    by_cases hj : j < 3
    · rw [List.getElem?_append_left (by rw [row_cells]; simpa using hj)] at h
      refine ⟨r, ?_, ?_⟩
      · rw [Nat.div_eq_of_lt hj]; rfl
      · rw [Nat.mod_eq_of_lt hj]; exact h
    · rw [List.getElem?_append_right (by rw [row_cells]; simp; omega)] at h
      have e3 : r.sv.cells.length = 3 := rfl
      rw [e3] at h
      obtain ⟨q, h1, h2⟩ := flat_rows_get l (j - 3) x h
      refine ⟨q, ?_, ?_⟩
      · rw [show j / 3 = (j - 3) / 3 + 1 by omega]; exact h1
      · rw [show j % 3 = (j - 3) % 3 by omega]; exact h2

/-- Rows, out of rows that can be read one by one. -/
theorem rep_rows {w : World} {a : Addr} {len cap : Nat} {base : Nat} (hcap : len ≤ cap)
    (h : ∀ i, i < len → ∃ (r : RowD) (u v z : Value), w.cells? base (a.add (i * 3)) 3 = some [u, v, z] ∧ RepS (allC w) (.str r.name) u ∧ RepS (allC w) (.sl (u64s r.N)) v ∧ RepS (allC w) (.sl (Ev.strs r.S)) z ∧ ∀ n ∈ r.N, n < 18446744073709551616) :
    ∃ l : List RowD, l.length = len ∧ RepS (allC w) (.sl (rowsSV l)) (.slice (some a) len cap) ∧ ∀ r ∈ l, ∀ n ∈ r.N, n < 18446744073709551616 := by
  classical
  let f : Nat → RowD := fun i => if hi : i < len then Classical.choose (h i hi) else ⟨[], [], []⟩
  have hf : ∀ i (hi : i < len), ∃ (u v z : Value), w.cells? base (a.add (i * 3)) 3 = some [u, v, z] ∧ RepS (allC w) (.str (f i).name) u ∧ RepS (allC w) (.sl (u64s (f i).N)) v ∧ RepS (allC w) (.sl (Ev.strs (f i).S)) z ∧ ∀ n ∈ (f i).N, n < 18446744073709551616 := by
    intro i hi
    have := Classical.choose_spec (h i hi)
    simp only [f, dif_pos hi]
    exact this
  refine ⟨(List.range len).map f, by simp, ?_, ?_⟩
  · refine rep_slice (k := 3) (by omega) (by simp [rowsSV]) hcap (fun x hx => ?_) (fun j x hx => ?_) (fun j x hx => ?_)
    · simp only [rowsSV, List.mem_map] at hx
      obtain ⟨r, _, rfl⟩ := hx
      rfl
    · obtain ⟨r, _, h2⟩ := flat_rows_get _ j x hx
      rw [row_cells] at h2
      have : x ∈ [SV.str r.name, .sl (u64s r.N), .sl (Ev.strs r.S)] := List.mem_of_getElem? h2
      simp only [List.mem_cons, List.not_mem_nil, or_false] at this
      rcases this with rfl | rfl | rfl <;> rfl
    · obtain ⟨r, h1, h2⟩ := flat_rows_get _ j x hx
      rw [List.getElem?_map, Option.map_eq_some_iff] at h1
      obtain ⟨i, hi, rfl⟩ := h1
      have hil : j / 3 < len := by have := (List.getElem?_eq_some_iff.1 hi).1; simpa using this
      have hij : i = j / 3 := by rw [List.getElem?_range hil] at hi; exact (Option.some.inj hi).symm
      subst hij
      obtain ⟨u, v, z, k1, k2, k3, k4, _⟩ := hf (j / 3) hil
      obtain ⟨_, _, k5⟩ := World.cells?_some k1
      have k6 := k5 (j % 3) (by omega)
      have ha : (a.add (j / 3 * 3)).add (j % 3) = a.add j := by
        unfold Addr.add
        by_cases q1 : j / 3 * 3 = 0
        · by_cases q2 : j % 3 = 0
          · have : j = 0 := by omega
            subst this; rfl
          · have : j % 3 = j := by omega
            rw [if_pos q1, this]
        · have q3 : j ≠ 0 := by omega
          by_cases q2 : j % 3 = 0
          · have : j / 3 * 3 = j := by omega
            rw [if_pos q2, this]
          · rw [if_neg q1, if_neg q2, if_neg q3]
            simp only [Addr.mk.injEq, true_and, and_true]
            omega
      rw [ha] at k6
      rw [row_cells] at h2
      have hm : j % 3 < 3 := Nat.mod_lt _ (by omega)
      generalize j % 3 = m at k6 h2 hm
      match m, hm with
      | 0, _ => simp at h2 k6; subst h2; exact ⟨u, k6, k2⟩
      | 1, _ => simp at h2 k6; subst h2; exact ⟨v, k6, k3⟩
      | 2, _ => simp at h2 k6; subst h2; exact ⟨z, k6, k4⟩
  · intro r hr
    obtain ⟨i, hi, rfl⟩ := List.mem_map.1 hr
    obtain ⟨_, _, _, _, _, _, _, k⟩ := hf i (by simpa using hi)
    exact k

end Go.Ev
