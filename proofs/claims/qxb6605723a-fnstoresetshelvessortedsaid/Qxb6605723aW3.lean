/- Walks: ident.Compare and what it calls. -/
import Derived.Test.Qxb6605723aW2
import Derived.Test.Qxb6605723aSxB
set_option linter.unusedVariables false
set_option linter.unusedSimpArgs false
set_option maxRecDepth 100000
namespace Go.Proofs.Try
open Go.Sx Go.Pl

set_option maxHeartbeats 1000000 in
theorem beUint64 (l : List UInt8) (n b off cap : Nat) (hn : l.length = n) (hl : 8 ≤ n) (w : World) (hr : Rd w b off (kc l)) :
    CallsV Try.prog 64 #[.agg #[], .slice (some ⟨b, off, none⟩) n cap] w fun v w' => v = .int .u64 (be8 l : Nat) ∧ Ext w w' := by
  have q0 := at8_lt l 0
  have q1 := at8_lt l 1
  have q2 := at8_lt l 2
  have q3 := at8_lt l 3
  have q4 := at8_lt l 4
  have q5 := at8_lt l 5
  have q6 := at8_lt l 6
  have q7 := at8_lt l 7
  refine calls_intro (args := [_, _]) Try.func64 rfl Try.ntmps64 rfl ?_
  refine WC.seq ?_
  refine WC.region ?_
  refine WL.box (c := []) rfl rfl rfl ?_
  intro b2 w2 hb2 ho2 hk2 hs2
  refine WL.step (ok_assign rfl) rfl ?_
  refine WL.nil ?_
  refine WX.thenC ?_
  refine WC.seq ?_
  have hr1 := hr.kp hk2 (fun f => f)
  refine WC.region ?_
  refine WL.step (ok_move rfl) rfl ?_
  refine WL.step (ok_indexS 7 rfl rfl rfl (by omega) Try.underlying30 sz5) rfl ?_
  refine WL.step (ok_load rfl one5 (rd_byte hr1 7 (by omega))) rfl ?_
  refine WL.nil ?_
  refine WX.thenC ?_
  refine WC.seq ?_
  refine WC.drawE [] 13 [(0, true), (1, true), (2, true), (3, true), (4, true), (5, true), (6, true), (7, true), (8, true), (9, true), (10, true), (11, true), (12, true), (13, true), (14, true), (15, true), (16, true), (17, true), (18, true), (19, true), (20, true), (21, true), (22, true), (23, true), (24, true), (25, true), (26, true), (27, true), (28, true), (29, true), (30, true), (31, true), (32, true), (33, true), (34, true), (35, true), (36, true), (37, true), (38, true), (39, true), (40, true), (41, true), (42, true), (43, true), (44, true), (45, true), (46, true)] mixed (by kernel_rfl) (fun hS => ?_)
  refine WO.quiet rfl (fun _ _ => ok_move rfl) hS rfl ?_
  refine WO.quiet rfl (fun _ _ => ok_indexS 7 rfl rfl rfl (by omega) Try.underlying30 sz5) hS rfl ?_
  refine WO.quiet rfl (fun _ hw => ok_load rfl one5 (Kp.cell hw (rd_byte hr1 7 (by omega)) (fun f => f))) hS rfl ?_
  refine WO.quiet rfl (fun _ _ => ok_convN rfl rfl Try.underlying52 rfl (by simp only [IntKind.bits]; omega)) hS rfl ?_
  refine WO.quiet rfl (fun _ _ => ok_move rfl) hS rfl ?_
  refine WO.quiet rfl (fun _ _ => ok_indexS 6 rfl rfl rfl (by omega) Try.underlying30 sz5) hS rfl ?_
  refine WO.quiet rfl (fun _ hw => ok_load rfl one5 (Kp.cell hw (rd_byte hr1 6 (by omega)) (fun f => f))) hS rfl ?_
  refine WO.quiet rfl (fun _ _ => ok_convN rfl rfl Try.underlying52 rfl (by simp only [IntKind.bits]; omega)) hS rfl ?_
  refine WO.quiet rfl (fun _ _ => ok_shlN 8 rfl rfl rfl rfl (by simp [IntKind.bits]) (by simp only [IntKind.bits]; omega)) hS rfl ?_
  refine WO.quiet rfl (fun _ _ => ok_orN 8 rfl rfl rfl (by omega) (by simp only [IntKind.bits]; omega)) hS rfl ?_
  refine WO.quiet rfl (fun _ _ => ok_move rfl) hS rfl ?_
  refine WO.quiet rfl (fun _ _ => ok_indexS 5 rfl rfl rfl (by omega) Try.underlying30 sz5) hS rfl ?_
  refine WO.quiet rfl (fun _ hw => ok_load rfl one5 (Kp.cell hw (rd_byte hr1 5 (by omega)) (fun f => f))) hS rfl ?_
  refine WO.quiet rfl (fun _ _ => ok_convN rfl rfl Try.underlying52 rfl (by simp only [IntKind.bits]; omega)) hS rfl ?_
  refine WO.quiet rfl (fun _ _ => ok_shlN 16 rfl rfl rfl rfl (by simp [IntKind.bits]) (by simp only [IntKind.bits]; omega)) hS rfl ?_
  refine WO.quiet rfl (fun _ _ => ok_orN 16 rfl rfl rfl (by omega) (by simp only [IntKind.bits]; omega)) hS rfl ?_
  refine WO.quiet rfl (fun _ _ => ok_move rfl) hS rfl ?_
  refine WO.quiet rfl (fun _ _ => ok_indexS 4 rfl rfl rfl (by omega) Try.underlying30 sz5) hS rfl ?_
  refine WO.quiet rfl (fun _ hw => ok_load rfl one5 (Kp.cell hw (rd_byte hr1 4 (by omega)) (fun f => f))) hS rfl ?_
  refine WO.quiet rfl (fun _ _ => ok_convN rfl rfl Try.underlying52 rfl (by simp only [IntKind.bits]; omega)) hS rfl ?_
  refine WO.quiet rfl (fun _ _ => ok_shlN 24 rfl rfl rfl rfl (by simp [IntKind.bits]) (by simp only [IntKind.bits]; omega)) hS rfl ?_
  refine WO.quiet rfl (fun _ _ => ok_orN 24 rfl rfl rfl (by omega) (by simp only [IntKind.bits]; omega)) hS rfl ?_
  refine WO.quiet rfl (fun _ _ => ok_move rfl) hS rfl ?_
  refine WO.quiet rfl (fun _ _ => ok_indexS 3 rfl rfl rfl (by omega) Try.underlying30 sz5) hS rfl ?_
  refine WO.quiet rfl (fun _ hw => ok_load rfl one5 (Kp.cell hw (rd_byte hr1 3 (by omega)) (fun f => f))) hS rfl ?_
  refine WO.quiet rfl (fun _ _ => ok_convN rfl rfl Try.underlying52 rfl (by simp only [IntKind.bits]; omega)) hS rfl ?_
  refine WO.quiet rfl (fun _ _ => ok_shlN 32 rfl rfl rfl rfl (by simp [IntKind.bits]) (by simp only [IntKind.bits]; omega)) hS rfl ?_
  refine WO.quiet rfl (fun _ _ => ok_orN 32 rfl rfl rfl (by omega) (by simp only [IntKind.bits]; omega)) hS rfl ?_
  refine WO.quiet rfl (fun _ _ => ok_move rfl) hS rfl ?_
  refine WO.quiet rfl (fun _ _ => ok_indexS 2 rfl rfl rfl (by omega) Try.underlying30 sz5) hS rfl ?_
  refine WO.quiet rfl (fun _ hw => ok_load rfl one5 (Kp.cell hw (rd_byte hr1 2 (by omega)) (fun f => f))) hS rfl ?_
  refine WO.quiet rfl (fun _ _ => ok_convN rfl rfl Try.underlying52 rfl (by simp only [IntKind.bits]; omega)) hS rfl ?_
  refine WO.quiet rfl (fun _ _ => ok_shlN 40 rfl rfl rfl rfl (by simp [IntKind.bits]) (by simp only [IntKind.bits]; omega)) hS rfl ?_
  refine WO.quiet rfl (fun _ _ => ok_orN 40 rfl rfl rfl (by omega) (by simp only [IntKind.bits]; omega)) hS rfl ?_
  refine WO.quiet rfl (fun _ _ => ok_move rfl) hS rfl ?_
  refine WO.quiet rfl (fun _ _ => ok_indexS 1 rfl rfl rfl (by omega) Try.underlying30 sz5) hS rfl ?_
  refine WO.quiet rfl (fun _ hw => ok_load rfl one5 (Kp.cell hw (rd_byte hr1 1 (by omega)) (fun f => f))) hS rfl ?_
  refine WO.quiet rfl (fun _ _ => ok_convN rfl rfl Try.underlying52 rfl (by simp only [IntKind.bits]; omega)) hS rfl ?_
  refine WO.quiet rfl (fun _ _ => ok_shlN 48 rfl rfl rfl rfl (by simp [IntKind.bits]) (by simp only [IntKind.bits]; omega)) hS rfl ?_
  refine WO.quiet rfl (fun _ _ => ok_orN 48 rfl rfl rfl (by omega) (by simp only [IntKind.bits]; omega)) hS rfl ?_
  refine WO.quiet rfl (fun _ _ => ok_move rfl) hS rfl ?_
  refine WO.quiet rfl (fun _ _ => ok_indexS 0 rfl rfl rfl (by omega) Try.underlying30 sz5) hS rfl ?_
  refine WO.quiet rfl (fun _ hw => ok_load rfl one5 (Kp.cell hw (rd_byte hr1 0 (by omega)) (fun f => f))) hS rfl ?_
  refine WO.quiet rfl (fun _ _ => ok_convN rfl rfl Try.underlying52 rfl (by simp only [IntKind.bits]; omega)) hS rfl ?_
  refine WO.quiet rfl (fun _ _ => ok_shlN 56 rfl rfl rfl rfl (by simp [IntKind.bits]) (by simp only [IntKind.bits]; omega)) hS rfl ?_
  refine WO.quiet rfl (fun _ _ => ok_orN 56 rfl rfl rfl (by omega) (by simp only [IntKind.bits]; omega)) hS rfl ?_
  refine WO.quiet rfl (fun _ _ => ok_assign rfl) hS rfl ?_
  refine WO.nil ?_
  refine WX.thenC ?_
  refine WC.ret ?_
  exact WX.ret1 rfl rfl ⟨_, rfl, rfl, hk2.trans (Kp.drew _ _)⟩
set_option maxHeartbeats 1000000 in
theorem beUint32 (l : List UInt8) (n b off cap : Nat) (hn : l.length = n) (hl : 4 ≤ n) (w : World) (hr : Rd w b off (kc l)) :
    CallsV Try.prog 67 #[.agg #[], .slice (some ⟨b, off, none⟩) n cap] w fun v w' => v = .int .u32 (be4 l : Nat) ∧ Ext w w' := by
  have q0 := at8_lt l 0
  have q1 := at8_lt l 1
  have q2 := at8_lt l 2
  have q3 := at8_lt l 3
  refine calls_intro (args := [_, _]) Try.func67 rfl Try.ntmps67 rfl ?_
  refine WC.seq ?_
  refine WC.region ?_
  refine WL.box (c := []) rfl rfl rfl ?_
  intro b2 w2 hb2 ho2 hk2 hs2
  refine WL.step (ok_assign rfl) rfl ?_
  refine WL.nil ?_
  refine WX.thenC ?_
  refine WC.seq ?_
  have hr1 := hr.kp hk2 (fun f => f)
  refine WC.region ?_
  refine WL.step (ok_move rfl) rfl ?_
  refine WL.step (ok_indexS 3 rfl rfl rfl (by omega) Try.underlying30 sz5) rfl ?_
  refine WL.step (ok_load rfl one5 (rd_byte hr1 3 (by omega))) rfl ?_
  refine WL.nil ?_
  refine WX.thenC ?_
  refine WC.seq ?_
  refine WC.drawE [] 9 [(0, true), (1, true), (2, true), (3, true), (4, true), (5, true), (6, true), (7, true), (8, true), (9, true), (10, true), (11, true), (12, true), (13, true), (14, true), (15, true), (16, true), (17, true), (18, true), (19, true), (20, true), (21, true), (22, true)] mixed (by kernel_rfl) (fun hS => ?_)
  refine WO.quiet rfl (fun _ _ => ok_move rfl) hS rfl ?_
  refine WO.quiet rfl (fun _ _ => ok_indexS 3 rfl rfl rfl (by omega) Try.underlying30 sz5) hS rfl ?_
  refine WO.quiet rfl (fun _ hw => ok_load rfl one5 (Kp.cell hw (rd_byte hr1 3 (by omega)) (fun f => f))) hS rfl ?_
  refine WO.quiet rfl (fun _ _ => ok_convN rfl rfl Try.underlying126 rfl (by simp only [IntKind.bits]; omega)) hS rfl ?_
  refine WO.quiet rfl (fun _ _ => ok_move rfl) hS rfl ?_
  refine WO.quiet rfl (fun _ _ => ok_indexS 2 rfl rfl rfl (by omega) Try.underlying30 sz5) hS rfl ?_
  refine WO.quiet rfl (fun _ hw => ok_load rfl one5 (Kp.cell hw (rd_byte hr1 2 (by omega)) (fun f => f))) hS rfl ?_
  refine WO.quiet rfl (fun _ _ => ok_convN rfl rfl Try.underlying126 rfl (by simp only [IntKind.bits]; omega)) hS rfl ?_
  refine WO.quiet rfl (fun _ _ => ok_shlN 8 rfl rfl rfl rfl (by simp [IntKind.bits]) (by simp only [IntKind.bits]; omega)) hS rfl ?_
  refine WO.quiet rfl (fun _ _ => ok_orN 8 rfl rfl rfl (by omega) (by simp only [IntKind.bits]; omega)) hS rfl ?_
  refine WO.quiet rfl (fun _ _ => ok_move rfl) hS rfl ?_
  refine WO.quiet rfl (fun _ _ => ok_indexS 1 rfl rfl rfl (by omega) Try.underlying30 sz5) hS rfl ?_
  refine WO.quiet rfl (fun _ hw => ok_load rfl one5 (Kp.cell hw (rd_byte hr1 1 (by omega)) (fun f => f))) hS rfl ?_
  refine WO.quiet rfl (fun _ _ => ok_convN rfl rfl Try.underlying126 rfl (by simp only [IntKind.bits]; omega)) hS rfl ?_
  refine WO.quiet rfl (fun _ _ => ok_shlN 16 rfl rfl rfl rfl (by simp [IntKind.bits]) (by simp only [IntKind.bits]; omega)) hS rfl ?_
  refine WO.quiet rfl (fun _ _ => ok_orN 16 rfl rfl rfl (by omega) (by simp only [IntKind.bits]; omega)) hS rfl ?_
  refine WO.quiet rfl (fun _ _ => ok_move rfl) hS rfl ?_
  refine WO.quiet rfl (fun _ _ => ok_indexS 0 rfl rfl rfl (by omega) Try.underlying30 sz5) hS rfl ?_
  refine WO.quiet rfl (fun _ hw => ok_load rfl one5 (Kp.cell hw (rd_byte hr1 0 (by omega)) (fun f => f))) hS rfl ?_
  refine WO.quiet rfl (fun _ _ => ok_convN rfl rfl Try.underlying126 rfl (by simp only [IntKind.bits]; omega)) hS rfl ?_
  refine WO.quiet rfl (fun _ _ => ok_shlN 24 rfl rfl rfl rfl (by simp [IntKind.bits]) (by simp only [IntKind.bits]; omega)) hS rfl ?_
  refine WO.quiet rfl (fun _ _ => ok_orN 24 rfl rfl rfl (by omega) (by simp only [IntKind.bits]; omega)) hS rfl ?_
  refine WO.quiet rfl (fun _ _ => ok_assign rfl) hS rfl ?_
  refine WO.nil ?_
  refine WX.thenC ?_
  refine WC.ret ?_
  exact WX.ret1 rfl rfl ⟨_, rfl, rfl, hk2.trans (Kp.drew _ _)⟩
theorem isNaN64 (n : Int) (w : World) : CallsV Try.prog 69 #[.int .u64 n] w fun v w' => v = .bool false ∧ w' = w := by
  refine calls_intro (args := [_]) Try.func69 rfl Try.ntmps69 rfl ?_
  refine WC.seq ?_
  refine WC.region ?_
  refine WL.step (ok_assign rfl) rfl ?_
  refine WL.nil ?_
  refine WX.thenC ?_
  refine WC.seq ?_
  refine WC.region ?_
  refine WL.step (ok_move rfl) rfl ?_
  refine WL.step (ok_move rfl) rfl ?_
  refine WL.step (ok_neq rfl rfl) rfl ?_
  refine WL.step (ok_assign rfl) rfl ?_
  refine WL.nil ?_
  refine WX.thenC ?_
  refine WC.ret ?_
  exact WX.ret1 rfl rfl ⟨_, rfl, by simp, rfl⟩
theorem isNaN32 (n : Int) (w : World) : CallsV Try.prog 70 #[.int .u32 n] w fun v w' => v = .bool false ∧ w' = w := by
  refine calls_intro (args := [_]) Try.func70 rfl Try.ntmps70 rfl ?_
  refine WC.seq ?_
  refine WC.region ?_
  refine WL.step (ok_assign rfl) rfl ?_
  refine WL.nil ?_
  refine WX.thenC ?_
  refine WC.seq ?_
  refine WC.region ?_
  refine WL.step (ok_move rfl) rfl ?_
  refine WL.step (ok_move rfl) rfl ?_
  refine WL.step (ok_neq rfl rfl) rfl ?_
  refine WL.step (ok_assign rfl) rfl ?_
  refine WL.nil ?_
  refine WX.thenC ?_
  refine WC.ret ?_
  exact WX.ret1 rfl rfl ⟨_, rfl, by simp, rfl⟩
theorem cmpU64 (a b : Nat) (w : World) : CallsV Try.prog 65 #[.int .u64 (a : Nat), .int .u64 (b : Nat)] w fun v w' => v = .int .i64 (cmpN a b) ∧ w' = w := by
  refine calls_intro (args := [_, _]) Try.func65 rfl Try.ntmps65 rfl ?_
  refine WC.seq ?_
  refine WC.region ?_
  refine WL.step (ok_assign rfl) rfl ?_
  refine WL.nil ?_
  refine WX.thenC ?_
  refine WC.seq ?_
  refine WC.region ?_
  refine WL.step (ok_move rfl) rfl ?_
  refine WL.call (ok_callF rfl isfn69) rfl (isNaN64 _ _) ?_
  rintro v w1 ⟨rfl, rfl⟩
  refine WL.step (ok_assign rfl) rfl ?_
  refine WL.nil ?_
  refine WX.thenC ?_
  refine WC.seq ?_
  refine WC.region ?_
  refine WL.step (ok_move rfl) rfl ?_
  refine WL.call (ok_callF rfl isfn69) rfl (isNaN64 _ _) ?_
  rintro v w1 ⟨rfl, rfl⟩
  refine WL.step (ok_assign rfl) rfl ?_
  refine WL.nil ?_
  refine WX.thenC ?_
  refine WC.seq ?_
  refine WC.seq ?_
  refine WC.region ?_
  refine WL.step (ok_move rfl) rfl ?_
  refine WL.nil ?_
  refine WX.thenC ?_
  refine WC.condFb rfl rfl ?_
  refine WC.skip ?_
  refine WX.thenC ?_
  refine WC.seq ?_
  refine WC.seq ?_
  refine WC.region ?_
  refine WL.step (ok_move rfl) rfl ?_
  refine WL.nil ?_
  refine WX.thenC ?_
  refine WC.condFb rfl rfl ?_
  refine WC.skip ?_
  refine WX.thenC ?_
  refine WC.seq ?_
  refine WC.seq ?_
  refine WC.region ?_
  refine WL.step (ok_move rfl) rfl ?_
  refine WL.step (ok_move rfl) rfl ?_
  refine WL.step (ok_lss rfl rfl) rfl ?_
  refine WL.nil ?_
  refine WX.thenC ?_
  refine WC.cond rfl (fun hc16 => ?_) (fun hc16 => ?_)
  ·
    have h1 := of_decide_eq_true hc16
    refine WC.seq ?_
    refine WC.region ?_
    refine WL.step (ok_assign rfl) rfl ?_
    refine WL.nil ?_
    refine WX.thenC ?_
    refine WC.ret ?_
    refine WX.thenR ?_
    exact WX.ret1 rfl rfl ⟨_, rfl, by unfold cmpN; rw [if_pos (by omega)], rfl⟩
  ·
    have h1 := of_decide_eq_false hc16
    refine WC.skip ?_
    refine WX.thenC ?_
    refine WC.seq ?_
    refine WC.seq ?_
    refine WC.region ?_
    refine WL.step (ok_move rfl) rfl ?_
    refine WL.step (ok_move rfl) rfl ?_
    refine WL.step (ok_gtr rfl rfl) rfl ?_
    refine WL.nil ?_
    refine WX.thenC ?_
    refine WC.cond rfl (fun hc19 => ?_) (fun hc19 => ?_)
    ·
      have h2 := of_decide_eq_true hc19
      refine WC.seq ?_
      refine WC.region ?_
      refine WL.step (ok_assign rfl) rfl ?_
      refine WL.nil ?_
      refine WX.thenC ?_
      refine WC.ret ?_
      refine WX.thenR ?_
      exact WX.ret1 rfl rfl ⟨_, rfl, by unfold cmpN; rw [if_neg (by omega), if_pos (by omega)], rfl⟩
    ·
      have h2 := of_decide_eq_false hc19
      refine WC.skip ?_
      refine WX.thenC ?_
      refine WC.seq ?_
      refine WC.region ?_
      refine WL.step (ok_assign rfl) rfl ?_
      refine WL.nil ?_
      refine WX.thenC ?_
      refine WC.ret ?_
      exact WX.ret1 rfl rfl ⟨_, rfl, by unfold cmpN; rw [if_neg (by omega), if_neg (by omega)], rfl⟩
theorem cmpU32 (a b : Nat) (w : World) : CallsV Try.prog 66 #[.int .u32 (a : Nat), .int .u32 (b : Nat)] w fun v w' => v = .int .i64 (cmpN a b) ∧ w' = w := by
  refine calls_intro (args := [_, _]) Try.func66 rfl Try.ntmps66 rfl ?_
  refine WC.seq ?_
  refine WC.region ?_
  refine WL.step (ok_assign rfl) rfl ?_
  refine WL.nil ?_
  refine WX.thenC ?_
  refine WC.seq ?_
  refine WC.region ?_
  refine WL.step (ok_move rfl) rfl ?_
  refine WL.call (ok_callF rfl isfn70) rfl (isNaN32 _ _) ?_
  rintro v w1 ⟨rfl, rfl⟩
  refine WL.step (ok_assign rfl) rfl ?_
  refine WL.nil ?_
  refine WX.thenC ?_
  refine WC.seq ?_
  refine WC.region ?_
  refine WL.step (ok_move rfl) rfl ?_
  refine WL.call (ok_callF rfl isfn70) rfl (isNaN32 _ _) ?_
  rintro v w1 ⟨rfl, rfl⟩
  refine WL.step (ok_assign rfl) rfl ?_
  refine WL.nil ?_
  refine WX.thenC ?_
  refine WC.seq ?_
  refine WC.seq ?_
  refine WC.region ?_
  refine WL.step (ok_move rfl) rfl ?_
  refine WL.nil ?_
  refine WX.thenC ?_
  refine WC.condFb rfl rfl ?_
  refine WC.skip ?_
  refine WX.thenC ?_
  refine WC.seq ?_
  refine WC.seq ?_
  refine WC.region ?_
  refine WL.step (ok_move rfl) rfl ?_
  refine WL.nil ?_
  refine WX.thenC ?_
  refine WC.condFb rfl rfl ?_
  refine WC.skip ?_
  refine WX.thenC ?_
  refine WC.seq ?_
  refine WC.seq ?_
  refine WC.region ?_
  refine WL.step (ok_move rfl) rfl ?_
  refine WL.step (ok_move rfl) rfl ?_
  refine WL.step (ok_lss rfl rfl) rfl ?_
  refine WL.nil ?_
  refine WX.thenC ?_
  refine WC.cond rfl (fun hc16 => ?_) (fun hc16 => ?_)
  ·
    have h1 := of_decide_eq_true hc16
    refine WC.seq ?_
    refine WC.region ?_
    refine WL.step (ok_assign rfl) rfl ?_
    refine WL.nil ?_
    refine WX.thenC ?_
    refine WC.ret ?_
    refine WX.thenR ?_
    exact WX.ret1 rfl rfl ⟨_, rfl, by unfold cmpN; rw [if_pos (by omega)], rfl⟩
  ·
    have h1 := of_decide_eq_false hc16
    refine WC.skip ?_
    refine WX.thenC ?_
    refine WC.seq ?_
    refine WC.seq ?_
    refine WC.region ?_
    refine WL.step (ok_move rfl) rfl ?_
    refine WL.step (ok_move rfl) rfl ?_
    refine WL.step (ok_gtr rfl rfl) rfl ?_
    refine WL.nil ?_
    refine WX.thenC ?_
    refine WC.cond rfl (fun hc19 => ?_) (fun hc19 => ?_)
    ·
      have h2 := of_decide_eq_true hc19
      refine WC.seq ?_
      refine WC.region ?_
      refine WL.step (ok_assign rfl) rfl ?_
      refine WL.nil ?_
      refine WX.thenC ?_
      refine WC.ret ?_
      refine WX.thenR ?_
      exact WX.ret1 rfl rfl ⟨_, rfl, by unfold cmpN; rw [if_neg (by omega), if_pos (by omega)], rfl⟩
    ·
      have h2 := of_decide_eq_false hc19
      refine WC.skip ?_
      refine WX.thenC ?_
      refine WC.seq ?_
      refine WC.region ?_
      refine WL.step (ok_assign rfl) rfl ?_
      refine WL.nil ?_
      refine WX.thenC ?_
      refine WC.ret ?_
      exact WX.ret1 rfl rfl ⟨_, rfl, by unfold cmpN; rw [if_neg (by omega), if_neg (by omega)], rfl⟩
theorem compareW (a b : List UInt8) (ha : a.length = 20) (hb : b.length = 20) (w : World) :
    CallsV Try.prog 58 #[.agg (kc a).toArray, .agg (kc b).toArray] w fun v w' => v = .int .i64 (cmpK a b) ∧ Ext w w' := by
  have hw := cmp_words a b ha hb
  refine calls_intro (args := [_, _]) Try.func58 rfl Try.ntmps58 rfl ?_
  refine WC.seq ?_
  refine WC.region ?_
  refine WL.box (c := kc a) rfl rfl rfl ?_
  intro b2 w2 hb2 ho2 hk2 hs2
  refine WL.box (c := kc b) rfl rfl rfl ?_
  intro b3 w3 hb3 ho3 hk3 hs3
  refine WL.step (ok_assign rfl) rfl ?_
  refine WL.nil ?_
  refine WX.thenC ?_
  refine WC.seq ?_
  refine WC.region ?_
  refine WL.step (ok_loadN rfl agg122 sz122 rfl ((fun j v hv => by simp at hv : Rd _ _ _ []))) rfl ?_
  refine WL.alloc zero122 rfl ?_
  intro b5 w5 hb5 ho5 hk5 hs5
  refine WL.store rfl rfl sz122 (ho5) (by simp [Value.cells]) (by simp [Value.cells]) (by simp [Value.cells, Value.oneCell']) ?_
  intro wr1 hor1 hkr1 hsr1
  have hA : Own wr1 b2 33 (kc a) := hkr1.own ((ho2.ext hk3).ext hk5) (by omega)
  have hB : Own wr1 b3 33 (kc b) := hkr1.own (ho3.ext hk5) (by omega)
  have hE1 : Ext w wr1 := ((hk2.trans hk3).trans hk5).over hkr1 (fun i hi e => by omega)
  refine WL.nil ?_
  refine WX.thenC ?_
  refine WC.seq ?_
  refine WC.seq ?_
  refine WC.drawE [5, 6, 7] 5 [(0, true), (1, true), (3, true), (4, true), (2, false), (5, false), (6, false), (7, false)] mixed (by kernel_rfl) (fun hS => ?_)
  refine WO.quiet rfl (fun _ hw => ok_loadN rfl agg122 sz122 rfl (Rd.kp ((fun j v hv => by simp at hv : Rd _ _ _ [])) hw (fun f => f))) hS rfl ?_
  refine WO.quiet rfl (fun _ _ => ok_sliceA 0 20 rfl Try.underlying33 sz5 rfl rfl (by omega) (by omega) (by omega)) hS rfl ?_
  refine WO.quiet rfl (fun _ hw => ok_loadN rfl agg122 sz122 rfl (Rd.kp ((fun j v hv => by simp at hv : Rd _ _ _ [])) hw (fun f => f))) hS rfl ?_
  refine WO.quiet rfl (fun _ _ => ok_sliceA 0 20 rfl Try.underlying33 sz5 rfl rfl (by omega) (by omega) (by omega)) hS rfl ?_
  refine WO.loudCall rfl (ok_callF rfl isfn64) rfl (beUint64 (a.drop 0) _ _ _ _ (by rw [List.length_drop]; omega) (by omega) _ (rd_drop (hA.drew).rd0 0)) ?_
  rintro v w13 ⟨rfl, hE13⟩
  refine ⟨(fun _ => hS.trans hE13), ?_⟩
  refine WO.loudCall rfl (ok_callF rfl isfn64) rfl (beUint64 (b.drop 0) _ _ _ _ (by rw [List.length_drop]; omega) (by omega) _ (rd_drop (hB.drew.ext hE13).rd0 0)) ?_
  rintro v w16 ⟨rfl, hE16⟩
  refine ⟨(inL rfl), ?_⟩
  have hE2 : Ext w w16 := ((hE1.trans (Kp.drew _ _)).trans hE13).trans hE16
  have hA2 := (hA.drew.ext hE13).ext hE16
  have hB2 := (hB.drew.ext hE13).ext hE16
  refine WO.loud rfl (ok_assign rfl) (inL rfl) rfl ?_
  refine WO.loud rfl (ok_assign rfl) (inL rfl) rfl ?_
  refine WO.nil ?_
  refine WX.thenC ?_
  refine WC.seq ?_
  refine WC.region ?_
  refine WL.step (ok_move rfl) rfl ?_
  refine WL.step (ok_move rfl) rfl ?_
  refine WL.step (ok_neq rfl rfl) rfl ?_
  refine WL.nil ?_
  refine WX.thenC ?_
  refine WC.cond rfl (fun hc19 => ?_) (fun hc19 => ?_)
  ·
    have c1 : be8 (a.drop 0) ≠ be8 (b.drop 0) := fun e => neqT hc19 (by rw [e])
    refine WC.seq ?_
    refine WC.region ?_
    refine WL.step (ok_move rfl) rfl ?_
    refine WL.step (ok_move rfl) rfl ?_
    refine WL.call (ok_callF rfl isfn65) rfl (cmpU64 _ _ _) ?_
    rintro v w22 ⟨rfl, rfl⟩
    refine WL.step (ok_assign rfl) rfl ?_
    refine WL.nil ?_
    refine WX.thenC ?_
    refine WC.ret ?_
    refine WX.thenR ?_
    exact WX.ret1 rfl rfl ⟨_, rfl, by rw [hw.1 c1], hE2⟩
  ·
    have c1 : be8 (a.drop 0) = be8 (b.drop 0) := by have := neqF hc19; omega
    refine WC.skip ?_
    refine WX.thenC ?_
    refine WC.seq ?_
    refine WC.seq ?_
    refine WC.drawE [5, 6, 7] 5 [(0, true), (1, true), (3, true), (4, true), (2, false), (5, false), (6, false), (7, false)] mixed (by kernel_rfl) (fun hS => ?_)
    refine WO.quiet rfl (fun _ hw => ok_loadN rfl agg122 sz122 rfl (Rd.kp ((fun j v hv => by simp at hv : Rd _ _ _ [])) hw (fun f => f))) hS rfl ?_
    refine WO.quiet rfl (fun _ _ => ok_sliceA 8 20 rfl Try.underlying33 sz5 rfl rfl (by omega) (by omega) (by omega)) hS rfl ?_
    refine WO.quiet rfl (fun _ hw => ok_loadN rfl agg122 sz122 rfl (Rd.kp ((fun j v hv => by simp at hv : Rd _ _ _ [])) hw (fun f => f))) hS rfl ?_
    refine WO.quiet rfl (fun _ _ => ok_sliceA 8 20 rfl Try.underlying33 sz5 rfl rfl (by omega) (by omega) (by omega)) hS rfl ?_
    refine WO.loudCall rfl (ok_callF rfl isfn64) rfl (beUint64 (a.drop 8) _ _ _ _ (by rw [List.length_drop]; omega) (by omega) _ (rd_drop (hA2.drew).rd0 8)) ?_
    rintro v w25 ⟨rfl, hE25⟩
    refine ⟨(fun _ => hS.trans hE25), ?_⟩
    refine WO.loudCall rfl (ok_callF rfl isfn64) rfl (beUint64 (b.drop 8) _ _ _ _ (by rw [List.length_drop]; omega) (by omega) _ (rd_drop (hB2.drew.ext hE25).rd0 8)) ?_
    rintro v w28 ⟨rfl, hE28⟩
    refine ⟨(inL rfl), ?_⟩
    have hE3 : Ext w w28 := ((hE2.trans (Kp.drew _ _)).trans hE25).trans hE28
    have hA3 := (hA2.drew.ext hE25).ext hE28
    have hB3 := (hB2.drew.ext hE25).ext hE28
    refine WO.loud rfl (ok_assign rfl) (inL rfl) rfl ?_
    refine WO.loud rfl (ok_assign rfl) (inL rfl) rfl ?_
    refine WO.nil ?_
    refine WX.thenC ?_
    refine WC.seq ?_
    refine WC.region ?_
    refine WL.step (ok_move rfl) rfl ?_
    refine WL.step (ok_move rfl) rfl ?_
    refine WL.step (ok_neq rfl rfl) rfl ?_
    refine WL.nil ?_
    refine WX.thenC ?_
    refine WC.cond rfl (fun hc31 => ?_) (fun hc31 => ?_)
    ·
      have c2 : be8 (a.drop 8) ≠ be8 (b.drop 8) := fun e => neqT hc31 (by rw [e])
      refine WC.seq ?_
      refine WC.region ?_
      refine WL.step (ok_move rfl) rfl ?_
      refine WL.step (ok_move rfl) rfl ?_
      refine WL.call (ok_callF rfl isfn65) rfl (cmpU64 _ _ _) ?_
      rintro v w34 ⟨rfl, rfl⟩
      refine WL.step (ok_assign rfl) rfl ?_
      refine WL.nil ?_
      refine WX.thenC ?_
      refine WC.ret ?_
      refine WX.thenR ?_
      exact WX.ret1 rfl rfl ⟨_, rfl, by rw [hw.2.1 c1 c2], hE3⟩
    ·
      have c2 : be8 (a.drop 8) = be8 (b.drop 8) := by have := neqF hc31; omega
      refine WC.skip ?_
      refine WX.thenC ?_
      refine WC.seq ?_
      refine WC.drawE [5, 6, 7] 5 [(0, true), (1, true), (3, true), (4, true), (2, false), (5, false), (6, false), (7, false)] mixed (by kernel_rfl) (fun hS => ?_)
      refine WO.quiet rfl (fun _ hw => ok_loadN rfl agg122 sz122 rfl (Rd.kp ((fun j v hv => by simp at hv : Rd _ _ _ [])) hw (fun f => f))) hS rfl ?_
      refine WO.quiet rfl (fun _ _ => ok_sliceA 16 20 rfl Try.underlying33 sz5 rfl rfl (by omega) (by omega) (by omega)) hS rfl ?_
      refine WO.quiet rfl (fun _ hw => ok_loadN rfl agg122 sz122 rfl (Rd.kp ((fun j v hv => by simp at hv : Rd _ _ _ [])) hw (fun f => f))) hS rfl ?_
      refine WO.quiet rfl (fun _ _ => ok_sliceA 16 20 rfl Try.underlying33 sz5 rfl rfl (by omega) (by omega) (by omega)) hS rfl ?_
      refine WO.loudCall rfl (ok_callF rfl isfn67) rfl (beUint32 (a.drop 16) _ _ _ _ (by rw [List.length_drop]; omega) (by omega) _ (rd_drop (hA3.drew).rd0 16)) ?_
      rintro v w37 ⟨rfl, hE37⟩
      refine ⟨(fun _ => hS.trans hE37), ?_⟩
      refine WO.loudCall rfl (ok_callF rfl isfn67) rfl (beUint32 (b.drop 16) _ _ _ _ (by rw [List.length_drop]; omega) (by omega) _ (rd_drop (hB3.drew.ext hE37).rd0 16)) ?_
      rintro v w40 ⟨rfl, hE40⟩
      refine ⟨(inL rfl), ?_⟩
      have hE4 : Ext w w40 := ((hE3.trans (Kp.drew _ _)).trans hE37).trans hE40
      refine WO.loudCall rfl (ok_callF rfl isfn66) rfl (cmpU32 _ _ _) ?_
      rintro v w41 ⟨rfl, rfl⟩
      refine ⟨(inL rfl), ?_⟩
      refine WO.loud rfl (ok_assign rfl) (inL rfl) rfl ?_
      refine WO.nil ?_
      refine WX.thenC ?_
      refine WC.ret ?_
      exact WX.ret1 rfl rfl ⟨_, rfl, by rw [hw.2.2 c1 c2], hE4⟩

end Go.Proofs.Try
