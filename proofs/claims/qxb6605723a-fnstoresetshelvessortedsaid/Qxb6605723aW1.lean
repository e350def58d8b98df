/- Walks: the laws' small functions. -/
import Derived.Test.Qxb6605723aTy
import Derived.Test.Qxb6605723aDat
set_option linter.unusedVariables false
set_option linter.unusedSimpArgs false
set_option maxRecDepth 100000
namespace Go.Proofs.Try
open Go.Sx Go.Pl

theorem take_succ_all {l : List Itm} {j : Nat} (h : ∀ y ∈ l.take j, y.name.size ≤ 1048576) (hj : j < l.length) (hnj : l[j].name.size ≤ 1048576) : ∀ y ∈ l.take (j + 1), y.name.size ≤ 1048576 := by
  rw [List.take_add_one, List.getElem?_eq_getElem hj]
  intro y hy
  rcases List.mem_append.1 hy with h' | h'
  · exact h y h'
  · simp at h'; subst h'; exact hnj
theorem key29 : KeyTy Try.prog 29 20 := ⟨⟨5, Try.underlying29, Try.underlying5, sz5⟩, by kernel_rfl⟩
theorem key33 : KeyTy Try.prog 33 20 := ⟨⟨5, Try.underlying33, Try.underlying5, sz5⟩, by kernel_rfl⟩

theorem cmpKey (a b : List UInt8) (ha : a.length = 20) (hb : b.length = 20) (w : World) :
    CallsV Try.prog 16 #[.agg (kc a).toArray, .agg (kc b).toArray] w fun v w' => v = .int .i64 (cmpK a b) ∧ Ext w w' := by
  refine calls_intro (args := [_, _]) Try.func16 rfl Try.ntmps16 rfl ?_
  refine WC.seq ?_
  refine WC.region ?_
  refine WL.box (c := _) rfl rfl rfl ?_
  intro b2 w2 hb2 ho2 hk2 hs2
  refine WL.box (c := _) rfl rfl rfl ?_
  intro b3 w3 hb3 ho3 hk3 hs3
  refine WL.step (ok_assign rfl) rfl ?_
  refine WL.nil ?_
  refine WX.thenC ?_
  refine WC.seq ?_
  refine WC.seq ?_
  refine WC.region ?_
  refine WL.step (ok_assign rfl) rfl ?_
  refine WL.nil ?_
  refine WX.thenC ?_
  refine WC.block ?_
  refine WC.loop (fun k : Nat => [(2, .pointer (some ⟨b2, 0, none⟩)), (3, .pointer (some ⟨b3, 0, none⟩)), (5, .int .i64 (k : Nat))])
    (fun k w' => k ≤ 20 ∧ Ext w w' ∧ Own w' b2 29 (kc a) ∧ Own w' b3 29 (kc b) ∧ cmpK a b = cmpK (a.drop k) (b.drop k)) (fun k => 20 - k) 0 (by repeat (first | exact trivial | refine ⟨rfl, ?_⟩)) ?_ ?_
  · exact ⟨by omega, hk2.trans hk3, hk3.own ho2 (fun f => f), ho3, rfl⟩
  rintro k w1 ⟨hk, hE, h2, h3, hcmp⟩
  refine WC.seq ?_
  refine WC.seq ?_
  refine WC.region ?_
  refine WL.step (ok_move rfl) rfl ?_
  refine WL.step (ok_lss rfl rfl) rfl ?_
  refine WL.nil ?_
  refine WX.thenC ?_
  refine WC.cond rfl (fun hc7 => ?_) (fun hc7 => ?_)
  ·
    have hlt : k < 20 := by have := of_decide_eq_true hc7; omega
    refine WC.skip ?_
    refine WX.thenC ?_
    refine WC.seq ?_
    refine WC.block ?_
    refine WC.seq ?_
    refine WC.seq ?_
    have hca : w1.cell? ⟨b2, 0 + k * 1, none⟩ = some (.int .u8 (a[k]'(by omega)).toNat) := by rw [h2.cell]; simpa using kc_get a k (by omega)
    have hcb : w1.cell? ⟨b3, 0 + k * 1, none⟩ = some (.int .u8 (b[k]'(by omega)).toNat) := by rw [h3.cell]; simpa using kc_get b k (by omega)
    refine WC.drawE [] 4 [(0, true), (1, true), (2, true), (3, true), (4, true), (5, true), (6, true)] mixed (by kernel_rfl) (fun hS => ?_)
    refine WO.quiet rfl (fun _ _ => ok_move rfl) hS rfl ?_
    refine WO.quiet rfl (fun _ _ => ok_indexA _ rfl rfl rfl (by omega) Try.underlying29 sz5) hS rfl ?_
    refine WO.quiet rfl (fun _ hw => ok_load rfl one5 (Kp.cell hw (hca) (fun f => f))) hS rfl ?_
    refine WO.quiet rfl (fun _ _ => ok_move rfl) hS rfl ?_
    refine WO.quiet rfl (fun _ _ => ok_indexA _ rfl rfl rfl (by omega) Try.underlying29 sz5) hS rfl ?_
    refine WO.quiet rfl (fun _ hw => ok_load rfl one5 (Kp.cell hw (hcb) (fun f => f))) hS rfl ?_
    refine WO.quiet rfl (fun _ _ => ok_lss rfl rfl) hS rfl ?_
    refine WO.nil ?_
    refine WX.thenC ?_
    refine WC.cond rfl (fun hc16 => ?_) (fun hc16 => ?_)
    ·
      refine WC.seq ?_
      refine WC.region ?_
      refine WL.step (ok_assign rfl) rfl ?_
      refine WL.nil ?_
      refine WX.thenC ?_
      refine WC.ret ?_
      refine WX.thenR ?_
      refine WX.blockR ?_
      refine WX.thenR ?_
      refine WX.thenR ?_
      refine WX.blockR ?_
      refine WX.thenR ?_
      exact WX.ret1 rfl rfl ⟨_, rfl, by rw [hcmp, cmpK_drop (by omega) (by omega), if_pos (by simpa [lt_iff] using hc16)], hE.trans (Kp.drew _ _)⟩
    ·
      refine WC.skip ?_
      refine WX.thenC ?_
      refine WC.seq ?_
      refine WC.drawE [] 4 [(0, true), (1, true), (2, true), (3, true), (4, true), (5, true), (6, true)] mixed (by kernel_rfl) (fun hS => ?_)
      refine WO.quiet rfl (fun _ _ => ok_move rfl) hS rfl ?_
      refine WO.quiet rfl (fun _ _ => ok_indexA _ rfl rfl rfl (by omega) Try.underlying29 sz5) hS rfl ?_
      refine WO.quiet rfl (fun _ hw => ok_load rfl one5 (Kp.cell hw (hca) (fun f => f))) hS rfl ?_
      refine WO.quiet rfl (fun _ _ => ok_move rfl) hS rfl ?_
      refine WO.quiet rfl (fun _ _ => ok_indexA _ rfl rfl rfl (by omega) Try.underlying29 sz5) hS rfl ?_
      refine WO.quiet rfl (fun _ hw => ok_load rfl one5 (Kp.cell hw (hcb) (fun f => f))) hS rfl ?_
      refine WO.quiet rfl (fun _ _ => ok_gtr rfl rfl) hS rfl ?_
      refine WO.nil ?_
      refine WX.thenC ?_
      refine WC.cond rfl (fun hc23 => ?_) (fun hc23 => ?_)
      ·
        refine WC.seq ?_
        refine WC.region ?_
        refine WL.step (ok_assign rfl) rfl ?_
        refine WL.nil ?_
        refine WX.thenC ?_
        refine WC.ret ?_
        refine WX.blockR ?_
        refine WX.thenR ?_
        refine WX.thenR ?_
        refine WX.blockR ?_
        refine WX.thenR ?_
        exact WX.ret1 rfl rfl ⟨_, rfl, by rw [hcmp, cmpK_drop (by omega) (by omega), if_neg (by simpa [lt_iff] using hc16), if_pos (by simpa [lt_iff] using hc23)], (hE.trans (Kp.drew _ _)).trans (Kp.drew _ _)⟩
      ·
        refine WC.skip ?_
        refine WX.blockN ?_
        refine WX.thenC ?_
        refine WC.region ?_
        refine WL.step (ok_move rfl) rfl ?_
        refine WL.step (ok_add ((k + 1 : Nat) : Int) rfl rfl (by omega) (by omega) (by omega)) rfl ?_
        refine WL.step (ok_assign rfl) rfl ?_
        refine WL.nil ?_
        exact WX.again (k + 1) (by repeat (first | exact trivial | refine ⟨rfl, ?_⟩)) ⟨by omega, (hE.trans (Kp.drew _ _)).trans (Kp.drew _ _), h2, h3, by rw [hcmp, cmpK_drop (by omega) (by omega), if_neg (by simpa [lt_iff] using hc16), if_neg (by simpa [lt_iff] using hc23)]⟩ (by omega)
  ·
    have hge : k = 20 := by have := of_decide_eq_false hc7; omega
    refine WC.exit ?_
    refine WX.thenE ?_
    refine WX.thenE ?_
    refine WX.blockHit ?_
    refine WX.thenC ?_
    refine WC.seq ?_
    refine WC.region ?_
    refine WL.step (ok_assign rfl) rfl ?_
    refine WL.nil ?_
    refine WX.thenC ?_
    refine WC.ret ?_
    exact WX.ret1 rfl rfl ⟨_, rfl, by rw [hcmp, List.drop_of_length_le (by omega)]; rfl, hE⟩
theorem lessPair (a b : List UInt8) (x y : ByteArray) (ha : a.length = 20) (hb : b.length = 20) (w : World) :
    CallsV Try.prog 20 #[.agg (kc a).toArray, .string x, .agg (kc b).toArray, .string y] w fun v w' => v = .bool (ltP a x.toList b y.toList) ∧ Ext w w' := by
  refine calls_intro (args := [_, _, _, _]) Try.func20 rfl Try.ntmps20 rfl ?_
  refine WC.seq ?_
  refine WC.region ?_
  refine WL.box (c := kc a) rfl rfl rfl ?_
  intro b4 w4 hb4 ho4 hk4 hs4
  refine WL.box (c := kc b) rfl rfl rfl ?_
  intro b6 w6 hb6 ho6 hk6 hs6
  refine WL.step (ok_assign rfl) rfl ?_
  refine WL.nil ?_
  refine WX.thenC ?_
  refine WC.seq ?_
  refine WC.region ?_
  refine WL.step (ok_loadN rfl agg29 sz29 (by simp [ha]) ((ho4.ext hk6).rd0)) rfl ?_
  refine WL.step (ok_loadN rfl agg29 sz29 (by simp [hb]) (ho6.rd0)) rfl ?_
  refine WL.call (ok_callF rfl isfn16) rfl (cmpKey a b ha hb _) ?_
  rintro v w1 ⟨rfl, hE⟩
  refine WL.step (ok_assign rfl) rfl ?_
  refine WL.nil ?_
  refine WX.thenC ?_
  refine WC.seq ?_
  refine WC.seq ?_
  refine WC.region ?_
  refine WL.step (ok_move rfl) rfl ?_
  refine WL.step (ok_neq rfl rfl) rfl ?_
  refine WL.nil ?_
  refine WX.thenC ?_
  refine WC.cond rfl (fun hc14 => ?_) (fun hc14 => ?_)
  ·
    have hne : cmpK a b ≠ 0 := by simpa using hc14
    refine WC.seq ?_
    refine WC.region ?_
    refine WL.step (ok_move rfl) rfl ?_
    refine WL.step (ok_lss rfl rfl) rfl ?_
    refine WL.step (ok_assign rfl) rfl ?_
    refine WL.nil ?_
    refine WX.thenC ?_
    refine WC.ret ?_
    refine WX.thenR ?_
    exact WX.ret1 rfl rfl ⟨_, rfl, by simp [ltP, hne], (hk4.trans hk6).trans hE⟩
  ·
    have heq : cmpK a b = 0 := by simpa using hc14
    refine WC.skip ?_
    refine WX.thenC ?_
    refine WC.seq ?_
    refine WC.region ?_
    refine WL.step (ok_move rfl) rfl ?_
    refine WL.step (ok_move rfl) rfl ?_
    refine WL.step (ok_lssS rfl rfl) rfl ?_
    refine WL.step (ok_assign rfl) rfl ?_
    refine WL.nil ?_
    refine WX.thenC ?_
    refine WC.ret ?_
    exact WX.ret1 rfl rfl ⟨_, rfl, by simp [ltP, heq], (hk4.trans hk6).trans hE⟩
theorem laterSamePair (l : List Itm) (ho : OkI l) (a : Option Addr) (cap k : Nat) (hk : k < l.length) (hn : l.length ≤ 1048576) (w : World) (hI : ItemsAt w a l) :
    CallsV Try.prog 36 #[.slice a l.length cap, .int .i64 (k : Nat)] w fun v w' => v = .bool (laterSame l k) ∧ Ext w w' := by
  obtain ⟨b, off, rfl, hr⟩ := hI.at hk
  have hls : laterSame l k = (l.drop (k + 1)).any fun y => same y l[k] := by simp [laterSame, hk]
  refine calls_intro (args := [_, _]) Try.func36 rfl Try.ntmps36 rfl ?_
  refine WC.seq ?_
  refine WC.region ?_
  refine WL.step (ok_assign rfl) rfl ?_
  refine WL.nil ?_
  refine WX.thenC ?_
  refine WC.seq ?_
  refine WC.seq ?_
  refine WC.region ?_
  refine WL.step (ok_move rfl) rfl ?_
  refine WL.step (ok_add ((k + 1 : Nat) : Int) rfl rfl (by omega) (by omega) (by omega)) rfl ?_
  refine WL.step (ok_assign rfl) rfl ?_
  refine WL.nil ?_
  refine WX.thenC ?_
  refine WC.block ?_
  refine WC.loop (fun j : Nat => [(0, .slice (some ⟨b, off, none⟩) l.length cap), (1, .int .i64 (k : Nat)), (5, .int .i64 (j : Nat))])
    (fun j w' => k < j ∧ j ≤ l.length ∧ Ext w w' ∧ laterSame l k = (l.drop j).any fun y => same y l[k]) (fun j => l.length - j) (k + 1) (by repeat (first | exact trivial | refine ⟨rfl, ?_⟩)) ?_ ?_
  · exact ⟨by omega, by omega, Kp.refl _ _, hls⟩
  rintro j w1 ⟨hj, hjn, hE, hcmp⟩
  refine WC.seq ?_
  refine WC.seq ?_
  refine WC.region ?_
  refine WL.step (ok_move rfl) rfl ?_
  refine WL.step (ok_move rfl) rfl ?_
  refine WL.step (ok_lenSlice rfl Try.underlying57) rfl ?_
  refine WL.step (ok_lss rfl rfl) rfl ?_
  refine WL.nil ?_
  refine WX.thenC ?_
  refine WC.cond rfl (fun hc11 => ?_) (fun hc11 => ?_)
  ·
    have hlt : j < l.length := by have := of_decide_eq_true hc11; omega
    refine WC.skip ?_
    refine WX.thenC ?_
    refine WC.seq ?_
    refine WC.block ?_
    refine WC.seq ?_
    refine WC.drawE [] 12 [(0, true), (1, true), (2, true), (3, true), (4, true), (5, true), (6, true), (7, true), (8, true), (9, true), (10, true), (11, true), (12, true), (13, true), (14, true), (15, true), (16, true), (17, true), (18, true), (19, true), (20, true), (21, true), (22, true), (23, true)] mixed (by kernel_rfl) (fun hS => ?_)
    refine WO.quiet rfl (fun _ _ => ok_move rfl) hS rfl ?_
    refine WO.quiet rfl (fun _ _ => ok_move rfl) hS rfl ?_
    refine WO.quiet rfl (fun _ _ => ok_indexS _ rfl rfl rfl (by omega) Try.underlying57 sz64) hS rfl ?_
    refine WO.quiet rfl (fun _ _ => ok_field rfl fld64_0) hS rfl ?_
    refine WO.quiet rfl (fun _ hw => ok_loadN rfl agg29 sz29 (by simp [ho _ (List.getElem_mem hlt)]) (Rd.kp (rd_key (hr.kp hE (fun f => f)) ho j hlt) hw (fun f => f))) hS rfl ?_
    refine WO.quiet rfl (fun _ _ => ok_move rfl) hS rfl ?_
    refine WO.quiet rfl (fun _ _ => ok_move rfl) hS rfl ?_
    refine WO.quiet rfl (fun _ _ => ok_indexS _ rfl rfl rfl (by omega) Try.underlying57 sz64) hS rfl ?_
    refine WO.quiet rfl (fun _ _ => ok_field rfl fld64_0) hS rfl ?_
    refine WO.quiet rfl (fun _ hw => ok_loadN rfl agg29 sz29 (by simp [ho _ (List.getElem_mem hk)]) (Rd.kp (rd_key (hr.kp hE (fun f => f)) ho k hk) hw (fun f => f))) hS rfl ?_
    refine WO.quiet rfl (fun _ _ => ok_eqlK rfl rfl key29 (ho _ (List.getElem_mem hlt)) (ho _ (List.getElem_mem hk))) hS rfl ?_
    refine WO.quiet rfl (fun _ _ => ok_move rfl) hS rfl ?_
    refine WO.splitB 25 rfl (fun hb25 => ?_) (fun hb25 => ?_)
    ·
      refine WO.quietOn rfl rfl rfl (fun _ _ => ok_move rfl) hS rfl ?_
      refine WO.quietOn rfl rfl rfl (fun _ _ => ok_move rfl) hS rfl ?_
      refine WO.quietOn rfl rfl rfl (fun _ _ => ok_indexS _ rfl rfl rfl (by omega) Try.underlying57 sz64) hS rfl ?_
      refine WO.quietOn rfl rfl rfl (fun _ _ => ok_field rfl fld64_1) hS rfl ?_
      refine WO.quietOn rfl rfl rfl (fun _ hw => ok_load rfl one9 (Kp.cell hw (rd_name (hr.kp hE (fun f => f)) ho j hlt) (fun f => f))) hS rfl ?_
      refine WO.quietOn rfl rfl rfl (fun _ _ => ok_move rfl) hS rfl ?_
      refine WO.quietOn rfl rfl rfl (fun _ _ => ok_move rfl) hS rfl ?_
      refine WO.quietOn rfl rfl rfl (fun _ _ => ok_indexS _ rfl rfl rfl (by omega) Try.underlying57 sz64) hS rfl ?_
      refine WO.quietOn rfl rfl rfl (fun _ _ => ok_field rfl fld64_1) hS rfl ?_
      refine WO.quietOn rfl rfl rfl (fun _ hw => ok_load rfl one9 (Kp.cell hw (rd_name (hr.kp hE (fun f => f)) ho k hk) (fun f => f))) hS rfl ?_
      refine WO.quietOn rfl rfl rfl (fun _ _ => ok_eqlS rfl rfl) hS rfl ?_
      refine WO.quiet rfl (fun _ _ => ok_pickT rfl rfl) hS rfl ?_
      refine WO.nil ?_
      refine WX.thenC ?_
      refine WC.cond rfl (fun hc37 => ?_) (fun hc37 => ?_)
      ·
        refine WC.seq ?_
        refine WC.region ?_
        refine WL.step (ok_assign rfl) rfl ?_
        refine WL.nil ?_
        refine WX.thenC ?_
        refine WC.ret ?_
        refine WX.blockR ?_
        refine WX.thenR ?_
        refine WX.thenR ?_
        refine WX.blockR ?_
        refine WX.thenR ?_
        exact WX.ret1 rfl rfl ⟨_, rfl, by rw [hcmp, any_drop _ _ j hlt]; have e1 := of_decide_eq_true hb25; have e2 := of_decide_eq_true hc37; simp [same, e1, e2], hE.trans (Kp.drew _ _)⟩
      ·
        refine WC.skip ?_
        refine WX.blockN ?_
        refine WX.thenC ?_
        refine WC.region ?_
        refine WL.step (ok_move rfl) rfl ?_
        refine WL.step (ok_add ((j + 1 : Nat) : Int) rfl rfl (by omega) (by omega) (by omega)) rfl ?_
        refine WL.step (ok_assign rfl) rfl ?_
        refine WL.nil ?_
        exact WX.again (j + 1) (by repeat (first | exact trivial | refine ⟨rfl, ?_⟩)) ⟨by omega, by omega, hE.trans (Kp.drew _ _), by rw [hcmp, any_drop _ _ j hlt]; have e1 := of_decide_eq_true hb25; have e2 := of_decide_eq_false hc37; simp [same, e1, e2]⟩ (by omega)
    ·
      refine WO.off rfl rfl rfl rfl hS rfl ?_
      refine WO.off rfl rfl rfl rfl hS rfl ?_
      refine WO.off rfl rfl rfl rfl hS rfl ?_
      refine WO.off rfl rfl rfl rfl hS rfl ?_
      refine WO.off rfl rfl rfl rfl hS rfl ?_
      refine WO.off rfl rfl rfl rfl hS rfl ?_
      refine WO.off rfl rfl rfl rfl hS rfl ?_
      refine WO.off rfl rfl rfl rfl hS rfl ?_
      refine WO.off rfl rfl rfl rfl hS rfl ?_
      refine WO.off rfl rfl rfl rfl hS rfl ?_
      refine WO.off rfl rfl rfl rfl hS rfl ?_
      refine WO.quiet rfl (fun _ _ => ok_pickF rfl rfl) hS rfl ?_
      refine WO.nil ?_
      refine WX.thenC ?_
      refine WC.cond rfl (fun hc37 => ?_) (fun hc37 => ?_)
      ·
        refine WC.seq ?_
        refine WC.region ?_
        refine WL.step (ok_assign rfl) rfl ?_
        refine WL.nil ?_
        refine WX.thenC ?_
        refine WC.ret ?_
        refine WX.blockR ?_
        refine WX.thenR ?_
        refine WX.thenR ?_
        refine WX.blockR ?_
        refine WX.thenR ?_
        exact absurd hc37 (by simp)
      ·
        refine WC.skip ?_
        refine WX.blockN ?_
        refine WX.thenC ?_
        refine WC.region ?_
        refine WL.step (ok_move rfl) rfl ?_
        refine WL.step (ok_add ((j + 1 : Nat) : Int) rfl rfl (by omega) (by omega) (by omega)) rfl ?_
        refine WL.step (ok_assign rfl) rfl ?_
        refine WL.nil ?_
        exact WX.again (j + 1) (by repeat (first | exact trivial | refine ⟨rfl, ?_⟩)) ⟨by omega, by omega, hE.trans (Kp.drew _ _), by rw [hcmp, any_drop _ _ j hlt]; have e1 := of_decide_eq_false hb25; simp [same, e1]⟩ (by omega)
  ·
    have hge : j = l.length := by have := of_decide_eq_false hc11; omega
    refine WC.exit ?_
    refine WX.thenE ?_
    refine WX.thenE ?_
    refine WX.blockHit ?_
    refine WX.thenC ?_
    refine WC.seq ?_
    refine WC.region ?_
    refine WL.step (ok_assign rfl) rfl ?_
    refine WL.nil ?_
    refine WX.thenC ?_
    refine WC.ret ?_
    exact WX.ret1 rfl rfl ⟨_, rfl, by rw [hcmp, List.drop_of_length_le (by omega)]; rfl, hE⟩
theorem absentW (l : List Itm) (ho : OkI l) (a : Option Addr) (cap : Nat) (x : Itm) (hx : x.key.length = 20) (hn : l.length ≤ 1048576) (w : World) (hI : ItemsAt w a l) :
    CallsV Try.prog 37 #[.slice a l.length cap, .agg (kc x.key).toArray, .string x.name] w fun v w' => v = .bool (absent l x) ∧ Ext w w' := by
  refine calls_intro (args := [_, _, _]) Try.func37 rfl Try.ntmps37 rfl ?_
  refine WC.seq ?_
  refine WC.region ?_
  refine WL.box (c := _) rfl rfl rfl ?_
  intro b4 w4 hb4 ho4 hk4 hs4
  refine WL.step (ok_assign rfl) rfl ?_
  refine WL.nil ?_
  refine WX.thenC ?_
  refine WC.seq ?_
  refine WC.seq ?_
  refine WC.region ?_
  refine WL.step (ok_assign rfl) rfl ?_
  refine WL.nil ?_
  refine WX.thenC ?_
  refine WC.block ?_
  refine WC.loop (fun j : Nat => [(0, .slice a l.length cap), (2, .string x.name), (4, .pointer (some ⟨b4, 0, none⟩)), (7, .int .i64 (j : Nat))])
    (fun j w' => j ≤ l.length ∧ Ext w w' ∧ Own w' b4 29 (kc x.key) ∧ absent l x = !((l.drop j).any fun y => same y x)) (fun j => l.length - j) 0 (by repeat (first | exact trivial | refine ⟨rfl, ?_⟩)) ?_ ?_
  · exact ⟨by omega, hk4, ho4, rfl⟩
  rintro j w1 ⟨hjn, hE, hB, hcmp⟩
  refine WC.seq ?_
  refine WC.seq ?_
  refine WC.region ?_
  refine WL.step (ok_move rfl) rfl ?_
  refine WL.step (ok_move rfl) rfl ?_
  refine WL.step (ok_lenSlice rfl Try.underlying57) rfl ?_
  refine WL.step (ok_lss rfl rfl) rfl ?_
  refine WL.nil ?_
  refine WX.thenC ?_
  refine WC.cond rfl (fun hc11 => ?_) (fun hc11 => ?_)
  ·
    have hlt : j < l.length := by have := of_decide_eq_true hc11; omega
    obtain ⟨b, off, rfl, hr⟩ := (hI.ext hE).at hlt
    refine WC.skip ?_
    refine WX.thenC ?_
    refine WC.seq ?_
    refine WC.block ?_
    refine WC.seq ?_
    refine WC.drawE [] 12 [(0, true), (1, true), (2, true), (3, true), (4, true), (5, true), (6, true), (7, true), (8, true), (9, true), (10, true), (11, true), (12, true), (13, true), (14, true), (15, true)] mixed (by kernel_rfl) (fun hS => ?_)
    refine WO.quiet rfl (fun _ _ => ok_move rfl) hS rfl ?_
    refine WO.quiet rfl (fun _ _ => ok_move rfl) hS rfl ?_
    refine WO.quiet rfl (fun _ _ => ok_indexS _ rfl rfl rfl (by omega) Try.underlying57 sz64) hS rfl ?_
    refine WO.quiet rfl (fun _ _ => ok_field rfl fld64_0) hS rfl ?_
    refine WO.quiet rfl (fun _ hw => ok_loadN rfl agg29 sz29 (by simp [ho _ (List.getElem_mem hlt)]) (Rd.kp (rd_key hr ho j hlt) hw (fun f => f))) hS rfl ?_
    refine WO.quiet rfl (fun _ hw => ok_loadN rfl agg29 sz29 (by simp [hx]) (Rd.kp (hB.rd0) hw (fun f => f))) hS rfl ?_
    refine WO.quiet rfl (fun _ _ => ok_eqlK rfl rfl key29 (ho _ (List.getElem_mem hlt)) hx) hS rfl ?_
    refine WO.quiet rfl (fun _ _ => ok_move rfl) hS rfl ?_
    refine WO.splitB 21 rfl (fun hb21 => ?_) (fun hb21 => ?_)
    ·
      refine WO.quietOn rfl rfl rfl (fun _ _ => ok_move rfl) hS rfl ?_
      refine WO.quietOn rfl rfl rfl (fun _ _ => ok_move rfl) hS rfl ?_
      refine WO.quietOn rfl rfl rfl (fun _ _ => ok_indexS _ rfl rfl rfl (by omega) Try.underlying57 sz64) hS rfl ?_
      refine WO.quietOn rfl rfl rfl (fun _ _ => ok_field rfl fld64_1) hS rfl ?_
      refine WO.quietOn rfl rfl rfl (fun _ hw => ok_load rfl one9 (Kp.cell hw (rd_name hr ho j hlt) (fun f => f))) hS rfl ?_
      refine WO.quietOn rfl rfl rfl (fun _ _ => ok_move rfl) hS rfl ?_
      refine WO.quietOn rfl rfl rfl (fun _ _ => ok_eqlS rfl rfl) hS rfl ?_
      refine WO.quiet rfl (fun _ _ => ok_pickT rfl rfl) hS rfl ?_
      refine WO.nil ?_
      refine WX.thenC ?_
      refine WC.cond rfl (fun hc29 => ?_) (fun hc29 => ?_)
      ·
        refine WC.seq ?_
        refine WC.region ?_
        refine WL.step (ok_assign rfl) rfl ?_
        refine WL.nil ?_
        refine WX.thenC ?_
        refine WC.ret ?_
        refine WX.blockR ?_
        refine WX.thenR ?_
        refine WX.thenR ?_
        refine WX.blockR ?_
        refine WX.thenR ?_
        exact WX.ret1 rfl rfl ⟨_, rfl, by rw [hcmp, any_drop _ _ j hlt]; have e1 := of_decide_eq_true hb21; have e2 := of_decide_eq_true hc29; simp [same, e1, e2], hE.trans (Kp.drew _ _)⟩
      ·
        refine WC.skip ?_
        refine WX.blockN ?_
        refine WX.thenC ?_
        refine WC.region ?_
        refine WL.step (ok_move rfl) rfl ?_
        refine WL.step (ok_add ((j + 1 : Nat) : Int) rfl rfl (by omega) (by omega) (by omega)) rfl ?_
        refine WL.step (ok_assign rfl) rfl ?_
        refine WL.nil ?_
        exact WX.again (j + 1) (by repeat (first | exact trivial | refine ⟨rfl, ?_⟩)) ⟨by omega, hE.trans (Kp.drew _ _), hB, by rw [hcmp, any_drop _ _ j hlt]; have e1 := of_decide_eq_true hb21; have e2 := of_decide_eq_false hc29; simp [same, e1, e2]⟩ (by omega)
    ·
      refine WO.off rfl rfl rfl rfl hS rfl ?_
      refine WO.off rfl rfl rfl rfl hS rfl ?_
      refine WO.off rfl rfl rfl rfl hS rfl ?_
      refine WO.off rfl rfl rfl rfl hS rfl ?_
      refine WO.off rfl rfl rfl rfl hS rfl ?_
      refine WO.off rfl rfl rfl rfl hS rfl ?_
      refine WO.off rfl rfl rfl rfl hS rfl ?_
      refine WO.quiet rfl (fun _ _ => ok_pickF rfl rfl) hS rfl ?_
      refine WO.nil ?_
      refine WX.thenC ?_
      refine WC.cond rfl (fun hc29 => ?_) (fun hc29 => ?_)
      ·
        refine WC.seq ?_
        refine WC.region ?_
        refine WL.step (ok_assign rfl) rfl ?_
        refine WL.nil ?_
        refine WX.thenC ?_
        refine WC.ret ?_
        refine WX.blockR ?_
        refine WX.thenR ?_
        refine WX.thenR ?_
        refine WX.blockR ?_
        refine WX.thenR ?_
        exact absurd hc29 (by simp)
      ·
        refine WC.skip ?_
        refine WX.blockN ?_
        refine WX.thenC ?_
        refine WC.region ?_
        refine WL.step (ok_move rfl) rfl ?_
        refine WL.step (ok_add ((j + 1 : Nat) : Int) rfl rfl (by omega) (by omega) (by omega)) rfl ?_
        refine WL.step (ok_assign rfl) rfl ?_
        refine WL.nil ?_
        exact WX.again (j + 1) (by repeat (first | exact trivial | refine ⟨rfl, ?_⟩)) ⟨by omega, hE.trans (Kp.drew _ _), hB, by rw [hcmp, any_drop _ _ j hlt]; have e1 := of_decide_eq_false hb21; simp [same, e1]⟩ (by omega)
  ·
    have hge : j = l.length := by have := of_decide_eq_false hc11; omega
    refine WC.exit ?_
    refine WX.thenE ?_
    refine WX.thenE ?_
    refine WX.blockHit ?_
    refine WX.thenC ?_
    refine WC.seq ?_
    refine WC.region ?_
    refine WL.step (ok_assign rfl) rfl ?_
    refine WL.nil ?_
    refine WX.thenC ?_
    refine WC.ret ?_
    exact WX.ret1 rfl rfl ⟨_, rfl, by rw [hcmp, List.drop_of_length_le (by omega)]; rfl, hE⟩
theorem itemsBytes (l : List Itm) (ho : OkI l) (a : Option Addr) (cap : Nat) (hn : l.length ≤ 1048576) (w : World) (hI : ItemsAt w a l) :
    CallsV Try.prog 28 #[.slice a l.length cap] w fun v w' => (∃ z, v = .int .i64 z) ∧ w' = w := by
  refine calls_intro (args := [_]) Try.func28 rfl Try.ntmps28 rfl ?_
  refine WC.seq ?_
  refine WC.region ?_
  refine WL.step (ok_assign rfl) rfl ?_
  refine WL.nil ?_
  refine WX.thenC ?_
  refine WC.seq ?_
  refine WC.region ?_
  refine WL.step (ok_move rfl) rfl ?_
  refine WL.step (ok_lenSlice rfl Try.underlying57) rfl ?_
  refine WL.step (ok_mulW rfl rfl) rfl ?_
  refine WL.step (ok_assign rfl) rfl ?_
  refine WL.nil ?_
  refine WX.thenC ?_
  refine WC.seq ?_
  refine WC.seq ?_
  refine WC.region ?_
  refine WL.step (ok_assign rfl) rfl ?_
  refine WL.nil ?_
  refine WX.thenC ?_
  refine WC.block ?_
  refine WC.loop (fun x : Nat × Int => [(0, .slice a l.length cap), (3, .int .i64 x.2), (4, .int .i64 (x.1 : Nat))])
    (fun x w' => x.1 ≤ l.length ∧ w' = w) (fun x => l.length - x.1) (0, _) (by repeat (first | exact trivial | refine ⟨rfl, ?_⟩)) ?_ ?_
  · exact ⟨by simp, rfl⟩
  rintro ⟨j, z⟩ w1 ⟨hjn, hE⟩
  subst hE
  simp only at hjn
  refine WC.seq ?_
  refine WC.seq ?_
  refine WC.region ?_
  refine WL.step (ok_move rfl) rfl ?_
  refine WL.step (ok_move rfl) rfl ?_
  refine WL.step (ok_lenSlice rfl Try.underlying57) rfl ?_
  refine WL.step (ok_lss rfl rfl) rfl ?_
  refine WL.nil ?_
  refine WX.thenC ?_
  refine WC.cond rfl (fun hc11 => ?_) (fun hc11 => ?_)
  ·
    have hlt : j < l.length := by have := of_decide_eq_true hc11; omega
    obtain ⟨b, off, rfl, hr⟩ := hI.at hlt
    refine WC.skip ?_
    refine WX.thenC ?_
    refine WC.seq ?_
    refine WC.block ?_
    refine WC.region ?_
    refine WL.step (ok_move rfl) rfl ?_
    refine WL.step (ok_move rfl) rfl ?_
    refine WL.step (ok_move rfl) rfl ?_
    refine WL.step (ok_indexS _ rfl rfl rfl (by omega) Try.underlying57 sz64) rfl ?_
    refine WL.step (ok_field rfl fld64_1) rfl ?_
    refine WL.step (ok_load rfl one9 (rd_name hr ho j hlt)) rfl ?_
    refine WL.step (ok_lenString rfl Try.underlying9) rfl ?_
    refine WL.step (ok_addW rfl rfl) rfl ?_
    refine WL.step (ok_assign rfl) rfl ?_
    refine WL.nil ?_
    refine WX.blockN ?_
    refine WX.thenC ?_
    refine WC.region ?_
    refine WL.step (ok_move rfl) rfl ?_
    refine WL.step (ok_add ((j + 1 : Nat) : Int) rfl rfl (by omega) (by omega) (by omega)) rfl ?_
    refine WL.step (ok_assign rfl) rfl ?_
    refine WL.nil ?_
    exact WX.again (j + 1, _) (by repeat (first | exact trivial | refine ⟨rfl, ?_⟩)) ⟨by simp; omega, rfl⟩ (by simp; omega)
  ·
    refine WC.exit ?_
    refine WX.thenE ?_
    refine WX.thenE ?_
    refine WX.blockHit ?_
    refine WX.thenC ?_
    refine WC.seq ?_
    refine WC.region ?_
    refine WL.step (ok_move rfl) rfl ?_
    refine WL.step (ok_assign rfl) rfl ?_
    refine WL.nil ?_
    refine WX.thenC ?_
    refine WC.ret ?_
    exact WX.ret1 rfl rfl ⟨_, rfl, ⟨_, rfl⟩, rfl⟩
theorem bytesFind (l : List Itm) (ho : OkI l) (a : Option Addr) (cap : Nat) (kv : Value) (x2 : ByteArray) (w : World) (hI : ItemsAt w a l) :
    CallsV Try.prog 35 #[.slice a l.length cap, kv, .string x2] w fun v w' => (∃ z, v = .bool z ∧ (z = true → (∀ x ∈ l, x.name.size ≤ 1048576) ∧ x2.size ≤ 1048576)) ∧ Ext w w' := by
  refine calls_intro (args := [_, _, _]) Try.func35 rfl Try.ntmps35 rfl ?_
  refine WC.seq ?_
  refine WC.region ?_
  refine WL.box (c := _) rfl rfl rfl ?_
  intro b4 w4 hb4 ho4 hk4 hs4
  have hE0 := hk4
  refine WL.step (ok_assign rfl) rfl ?_
  refine WL.nil ?_
  refine WX.thenC ?_
  refine WC.seq ?_
  refine WC.region ?_
  refine WL.step (ok_assign rfl) rfl ?_
  refine WL.nil ?_
  refine WX.thenC ?_
  refine WC.seq ?_
  refine WC.seq ?_
  refine WC.region ?_
  refine WL.step (ok_move rfl) rfl ?_
  refine WL.step (ok_lenSlice rfl Try.underlying57) rfl ?_
  refine WL.step (ok_gtr rfl rfl) rfl ?_
  refine WL.nil ?_
  refine WX.thenC ?_
  refine WC.cond rfl (fun hc11 => ?_) (fun hc11 => ?_)
  ·
    refine WC.seq ?_
    refine WC.region ?_
    refine WL.step (ok_assign rfl) rfl ?_
    refine WL.nil ?_
    refine WX.thenC ?_
    refine WC.ret ?_
    refine WX.thenR ?_
    exact WX.ret1 rfl rfl ⟨_, rfl, ⟨_, rfl, fun h => by cases h⟩, hE0⟩
  ·
    have hn : l.length ≤ 1048576 := by have := of_decide_eq_false hc11; omega
    refine WC.skip ?_
    refine WX.thenC ?_
    refine WC.seq ?_
    refine WC.region ?_
    refine WL.step (ok_move rfl) rfl ?_
    refine WL.step (ok_move rfl) rfl ?_
    refine WL.step (ok_lenSlice rfl Try.underlying57) rfl ?_
    refine WL.step (ok_addW rfl rfl) rfl ?_
    refine WL.step (ok_assign rfl) rfl ?_
    refine WL.nil ?_
    refine WX.thenC ?_
    refine WC.seq ?_
    refine WC.seq ?_
    refine WC.region ?_
    refine WL.step (ok_move rfl) rfl ?_
    refine WL.step (ok_gtr rfl rfl) rfl ?_
    refine WL.nil ?_
    refine WX.thenC ?_
    refine WC.cond rfl (fun hc17 => ?_) (fun hc17 => ?_)
    ·
      refine WC.seq ?_
      refine WC.region ?_
      refine WL.step (ok_assign rfl) rfl ?_
      refine WL.nil ?_
      refine WX.thenC ?_
      refine WC.ret ?_
      refine WX.thenR ?_
      exact WX.ret1 rfl rfl ⟨_, rfl, ⟨_, rfl, fun h => by cases h⟩, hE0⟩
    ·
      refine WC.skip ?_
      refine WX.thenC ?_
      refine WC.seq ?_
      refine WC.seq ?_
      refine WC.region ?_
      refine WL.step (ok_assign rfl) rfl ?_
      refine WL.nil ?_
      refine WX.thenC ?_
      refine WC.block ?_
      refine WC.loop (fun x : Nat × Int => [(0, .slice a l.length cap), (2, .string x2), (7, .int .i64 x.2), (8, .int .i64 (x.1 : Nat))])
        (fun x w' => x.1 ≤ l.length ∧ (∀ y ∈ l.take x.1, y.name.size ≤ 1048576) ∧ Ext w w') (fun x => l.length - x.1) (0, _) (by repeat (first | exact trivial | refine ⟨rfl, ?_⟩)) ?_ ?_
      · exact ⟨by simp, by simp, hE0⟩
      rintro ⟨j, z⟩ w1 ⟨hjn, hsm, hE0⟩
      simp only at hjn hsm
      refine WC.seq ?_
      refine WC.seq ?_
      refine WC.region ?_
      refine WL.step (ok_move rfl) rfl ?_
      refine WL.step (ok_move rfl) rfl ?_
      refine WL.step (ok_lenSlice rfl Try.underlying57) rfl ?_
      refine WL.step (ok_lss rfl rfl) rfl ?_
      refine WL.nil ?_
      refine WX.thenC ?_
      refine WC.cond rfl (fun hc21 => ?_) (fun hc21 => ?_)
      ·
        have hlt : j < l.length := by have := of_decide_eq_true hc21; omega
        obtain ⟨b, off, rfl, hr⟩ := (hI.ext hE0).at hlt
        refine WC.skip ?_
        refine WX.thenC ?_
        refine WC.seq ?_
        refine WC.block ?_
        refine WC.seq ?_
        refine WC.condF rfl ?_
        refine WC.skip ?_
        refine WX.thenC ?_
        refine WC.seq ?_
        refine WC.region ?_
        refine WL.step (ok_move rfl) rfl ?_
        refine WL.step (ok_addW rfl rfl) rfl ?_
        refine WL.step (ok_assign rfl) rfl ?_
        refine WL.nil ?_
        refine WX.thenC ?_
        refine WC.seq ?_
        refine WC.seq ?_
        refine WC.region ?_
        refine WL.step (ok_move rfl) rfl ?_
        refine WL.step (ok_gtr rfl rfl) rfl ?_
        refine WL.nil ?_
        refine WX.thenC ?_
        refine WC.cond rfl (fun hc27 => ?_) (fun hc27 => ?_)
        ·
          refine WC.seq ?_
          refine WC.region ?_
          refine WL.step (ok_assign rfl) rfl ?_
          refine WL.nil ?_
          refine WX.thenC ?_
          refine WC.ret ?_
          refine WX.thenR ?_
          refine WX.blockR ?_
          refine WX.thenR ?_
          refine WX.thenR ?_
          refine WX.blockR ?_
          refine WX.thenR ?_
          exact WX.ret1 rfl rfl ⟨_, rfl, ⟨_, rfl, fun h => by cases h⟩, hE0⟩
        ·
          refine WC.skip ?_
          refine WX.thenC ?_
          refine WC.seq ?_
          refine WC.seq ?_
          refine WC.region ?_
          refine WL.step (ok_move rfl) rfl ?_
          refine WL.step (ok_move rfl) rfl ?_
          refine WL.step (ok_indexS _ rfl rfl rfl (by omega) Try.underlying57 sz64) rfl ?_
          refine WL.step (ok_field rfl fld64_1) rfl ?_
          refine WL.step (ok_load rfl one9 (rd_name hr ho j hlt)) rfl ?_
          refine WL.step (ok_lenString rfl Try.underlying9) rfl ?_
          refine WL.step (ok_gtr rfl rfl) rfl ?_
          refine WL.nil ?_
          refine WX.thenC ?_
          refine WC.cond rfl (fun hc34 => ?_) (fun hc34 => ?_)
          ·
            refine WC.seq ?_
            refine WC.region ?_
            refine WL.step (ok_assign rfl) rfl ?_
            refine WL.nil ?_
            refine WX.thenC ?_
            refine WC.ret ?_
            refine WX.thenR ?_
            refine WX.blockR ?_
            refine WX.thenR ?_
            refine WX.thenR ?_
            refine WX.blockR ?_
            refine WX.thenR ?_
            exact WX.ret1 rfl rfl ⟨_, rfl, ⟨_, rfl, fun h => by cases h⟩, hE0⟩
          ·
            have hnj : l[j].name.size ≤ 1048576 := by have := of_decide_eq_false hc34; omega
            refine WC.skip ?_
            refine WX.thenC ?_
            refine WC.seq ?_
            refine WC.region ?_
            refine WL.step (ok_move rfl) rfl ?_
            refine WL.step (ok_move rfl) rfl ?_
            refine WL.step (ok_move rfl) rfl ?_
            refine WL.step (ok_indexS _ rfl rfl rfl (by omega) Try.underlying57 sz64) rfl ?_
            refine WL.step (ok_field rfl fld64_1) rfl ?_
            refine WL.step (ok_load rfl one9 (rd_name hr ho j hlt)) rfl ?_
            refine WL.step (ok_lenString rfl Try.underlying9) rfl ?_
            refine WL.step (ok_addW rfl rfl) rfl ?_
            refine WL.step (ok_assign rfl) rfl ?_
            refine WL.nil ?_
            refine WX.thenC ?_
            refine WC.seq ?_
            refine WC.region ?_
            refine WL.step (ok_move rfl) rfl ?_
            refine WL.step (ok_gtr rfl rfl) rfl ?_
            refine WL.nil ?_
            refine WX.thenC ?_
            refine WC.cond rfl (fun hc44 => ?_) (fun hc44 => ?_)
            ·
              refine WC.seq ?_
              refine WC.region ?_
              refine WL.step (ok_assign rfl) rfl ?_
              refine WL.nil ?_
              refine WX.thenC ?_
              refine WC.ret ?_
              refine WX.blockR ?_
              refine WX.thenR ?_
              refine WX.thenR ?_
              refine WX.blockR ?_
              refine WX.thenR ?_
              exact WX.ret1 rfl rfl ⟨_, rfl, ⟨_, rfl, fun h => by cases h⟩, hE0⟩
            ·
              refine WC.skip ?_
              refine WX.blockN ?_
              refine WX.thenC ?_
              refine WC.region ?_
              refine WL.step (ok_move rfl) rfl ?_
              refine WL.step (ok_add ((j + 1 : Nat) : Int) rfl rfl (by omega) (by omega) (by omega)) rfl ?_
              refine WL.step (ok_assign rfl) rfl ?_
              refine WL.nil ?_
              exact WX.again (j + 1, _) (by repeat (first | exact trivial | refine ⟨rfl, ?_⟩)) ⟨by simp; omega, take_succ_all hsm hlt hnj, hE0⟩ (by simp; omega)
      ·
        have hge : j = l.length := by have := of_decide_eq_false hc21; omega
        have hal : ∀ x ∈ l, x.name.size ≤ 1048576 := by rw [hge, List.take_length] at hsm; exact hsm
        refine WC.exit ?_
        refine WX.thenE ?_
        refine WX.thenE ?_
        refine WX.blockHit ?_
        refine WX.thenC ?_
        refine WC.seq ?_
        refine WC.seq ?_
        refine WC.region ?_
        refine WL.step (ok_move rfl) rfl ?_
        refine WL.step (ok_lenString rfl Try.underlying9) rfl ?_
        refine WL.step (ok_gtr rfl rfl) rfl ?_
        refine WL.nil ?_
        refine WX.thenC ?_
        refine WC.cond rfl (fun hc47 => ?_) (fun hc47 => ?_)
        ·
          refine WC.seq ?_
          refine WC.region ?_
          refine WL.step (ok_assign rfl) rfl ?_
          refine WL.nil ?_
          refine WX.thenC ?_
          refine WC.ret ?_
          refine WX.thenR ?_
          exact WX.ret1 rfl rfl ⟨_, rfl, ⟨_, rfl, fun h => by cases h⟩, hE0⟩
        ·
          have hx2 : x2.size ≤ 1048576 := by have := of_decide_eq_false hc47; omega
          refine WC.skip ?_
          refine WX.thenC ?_
          refine WC.seq ?_
          refine WC.region ?_
          refine WL.step (ok_move rfl) rfl ?_
          refine WL.step (ok_move rfl) rfl ?_
          refine WL.step (ok_lenString rfl Try.underlying9) rfl ?_
          refine WL.step (ok_addW rfl rfl) rfl ?_
          refine WL.step (ok_assign rfl) rfl ?_
          refine WL.nil ?_
          refine WX.thenC ?_
          refine WC.seq ?_
          refine WC.seq ?_
          refine WC.region ?_
          refine WL.step (ok_move rfl) rfl ?_
          refine WL.step (ok_gtr rfl rfl) rfl ?_
          refine WL.nil ?_
          refine WX.thenC ?_
          refine WC.cond rfl (fun hc53 => ?_) (fun hc53 => ?_)
          ·
            refine WC.seq ?_
            refine WC.region ?_
            refine WL.step (ok_assign rfl) rfl ?_
            refine WL.nil ?_
            refine WX.thenC ?_
            refine WC.ret ?_
            refine WX.thenR ?_
            exact WX.ret1 rfl rfl ⟨_, rfl, ⟨_, rfl, fun h => by cases h⟩, hE0⟩
          ·
            refine WC.skip ?_
            refine WX.thenC ?_
            refine WC.seq ?_
            refine WC.region ?_
            refine WL.step (ok_assign rfl) rfl ?_
            refine WL.nil ?_
            refine WX.thenC ?_
            refine WC.ret ?_
            exact WX.ret1 rfl rfl ⟨_, rfl, ⟨_, rfl, fun _ => ⟨hal, hx2⟩⟩, hE0⟩
theorem bytesKeeps (l : List Itm) (ho : OkI l) (a : Option Addr) (cap : Nat) (kv : Value) (x2 : ByteArray) (w : World) (hI : ItemsAt w a l) :
    CallsV Try.prog 42 #[.slice a l.length cap, kv, .string x2] w fun v w' => (∃ z, v = .bool z ∧ (z = true → (∀ x ∈ l, x.name.size ≤ 1048576) ∧ x2.size ≤ 1048576)) ∧ Ext w w' := by
  refine calls_intro (args := [_, _, _]) Try.func42 rfl Try.ntmps42 rfl ?_
  refine WC.seq ?_
  refine WC.region ?_
  refine WL.box (c := _) rfl rfl rfl ?_
  intro b4 w4 hb4 ho4 hk4 hs4
  have hE0 := hk4
  refine WL.step (ok_assign rfl) rfl ?_
  refine WL.nil ?_
  refine WX.thenC ?_
  refine WC.seq ?_
  refine WC.region ?_
  refine WL.step (ok_assign rfl) rfl ?_
  refine WL.nil ?_
  refine WX.thenC ?_
  refine WC.seq ?_
  refine WC.seq ?_
  refine WC.region ?_
  refine WL.step (ok_move rfl) rfl ?_
  refine WL.step (ok_lenSlice rfl Try.underlying57) rfl ?_
  refine WL.step (ok_gtr rfl rfl) rfl ?_
  refine WL.nil ?_
  refine WX.thenC ?_
  refine WC.cond rfl (fun hc11 => ?_) (fun hc11 => ?_)
  ·
    refine WC.seq ?_
    refine WC.region ?_
    refine WL.step (ok_assign rfl) rfl ?_
    refine WL.nil ?_
    refine WX.thenC ?_
    refine WC.ret ?_
    refine WX.thenR ?_
    exact WX.ret1 rfl rfl ⟨_, rfl, ⟨_, rfl, fun h => by cases h⟩, hE0⟩
  ·
    have hn : l.length ≤ 1048576 := by have := of_decide_eq_false hc11; omega
    refine WC.skip ?_
    refine WX.thenC ?_
    refine WC.seq ?_
    refine WC.region ?_
    refine WL.step (ok_move rfl) rfl ?_
    refine WL.step (ok_move rfl) rfl ?_
    refine WL.step (ok_lenSlice rfl Try.underlying57) rfl ?_
    refine WL.step (ok_addW rfl rfl) rfl ?_
    refine WL.step (ok_assign rfl) rfl ?_
    refine WL.nil ?_
    refine WX.thenC ?_
    refine WC.seq ?_
    refine WC.seq ?_
    refine WC.region ?_
    refine WL.step (ok_move rfl) rfl ?_
    refine WL.step (ok_gtr rfl rfl) rfl ?_
    refine WL.nil ?_
    refine WX.thenC ?_
    refine WC.cond rfl (fun hc17 => ?_) (fun hc17 => ?_)
    ·
      refine WC.seq ?_
      refine WC.region ?_
      refine WL.step (ok_assign rfl) rfl ?_
      refine WL.nil ?_
      refine WX.thenC ?_
      refine WC.ret ?_
      refine WX.thenR ?_
      exact WX.ret1 rfl rfl ⟨_, rfl, ⟨_, rfl, fun h => by cases h⟩, hE0⟩
    ·
      refine WC.skip ?_
      refine WX.thenC ?_
      refine WC.seq ?_
      refine WC.seq ?_
      refine WC.region ?_
      refine WL.step (ok_assign rfl) rfl ?_
      refine WL.nil ?_
      refine WX.thenC ?_
      refine WC.block ?_
      refine WC.loop (fun x : Nat × Int => [(0, .slice a l.length cap), (2, .string x2), (7, .int .i64 x.2), (8, .int .i64 (x.1 : Nat))])
        (fun x w' => x.1 ≤ l.length ∧ (∀ y ∈ l.take x.1, y.name.size ≤ 1048576) ∧ Ext w w') (fun x => l.length - x.1) (0, _) (by repeat (first | exact trivial | refine ⟨rfl, ?_⟩)) ?_ ?_
      · exact ⟨by simp, by simp, hE0⟩
      rintro ⟨j, z⟩ w1 ⟨hjn, hsm, hE0⟩
      simp only at hjn hsm
      refine WC.seq ?_
      refine WC.seq ?_
      refine WC.region ?_
      refine WL.step (ok_move rfl) rfl ?_
      refine WL.step (ok_move rfl) rfl ?_
      refine WL.step (ok_lenSlice rfl Try.underlying57) rfl ?_
      refine WL.step (ok_lss rfl rfl) rfl ?_
      refine WL.nil ?_
      refine WX.thenC ?_
      refine WC.cond rfl (fun hc21 => ?_) (fun hc21 => ?_)
      ·
        have hlt : j < l.length := by have := of_decide_eq_true hc21; omega
        obtain ⟨b, off, rfl, hr⟩ := (hI.ext hE0).at hlt
        refine WC.skip ?_
        refine WX.thenC ?_
        refine WC.seq ?_
        refine WC.block ?_
        refine WC.seq ?_
        refine WC.condF rfl ?_
        refine WC.skip ?_
        refine WX.thenC ?_
        refine WC.seq ?_
        refine WC.region ?_
        refine WL.step (ok_move rfl) rfl ?_
        refine WL.step (ok_addW rfl rfl) rfl ?_
        refine WL.step (ok_assign rfl) rfl ?_
        refine WL.nil ?_
        refine WX.thenC ?_
        refine WC.seq ?_
        refine WC.seq ?_
        refine WC.region ?_
        refine WL.step (ok_move rfl) rfl ?_
        refine WL.step (ok_gtr rfl rfl) rfl ?_
        refine WL.nil ?_
        refine WX.thenC ?_
        refine WC.cond rfl (fun hc27 => ?_) (fun hc27 => ?_)
        ·
          refine WC.seq ?_
          refine WC.region ?_
          refine WL.step (ok_assign rfl) rfl ?_
          refine WL.nil ?_
          refine WX.thenC ?_
          refine WC.ret ?_
          refine WX.thenR ?_
          refine WX.blockR ?_
          refine WX.thenR ?_
          refine WX.thenR ?_
          refine WX.blockR ?_
          refine WX.thenR ?_
          exact WX.ret1 rfl rfl ⟨_, rfl, ⟨_, rfl, fun h => by cases h⟩, hE0⟩
        ·
          refine WC.skip ?_
          refine WX.thenC ?_
          refine WC.seq ?_
          refine WC.seq ?_
          refine WC.region ?_
          refine WL.step (ok_move rfl) rfl ?_
          refine WL.step (ok_move rfl) rfl ?_
          refine WL.step (ok_indexS _ rfl rfl rfl (by omega) Try.underlying57 sz64) rfl ?_
          refine WL.step (ok_field rfl fld64_1) rfl ?_
          refine WL.step (ok_load rfl one9 (rd_name hr ho j hlt)) rfl ?_
          refine WL.step (ok_lenString rfl Try.underlying9) rfl ?_
          refine WL.step (ok_gtr rfl rfl) rfl ?_
          refine WL.nil ?_
          refine WX.thenC ?_
          refine WC.cond rfl (fun hc34 => ?_) (fun hc34 => ?_)
          ·
            refine WC.seq ?_
            refine WC.region ?_
            refine WL.step (ok_assign rfl) rfl ?_
            refine WL.nil ?_
            refine WX.thenC ?_
            refine WC.ret ?_
            refine WX.thenR ?_
            refine WX.blockR ?_
            refine WX.thenR ?_
            refine WX.thenR ?_
            refine WX.blockR ?_
            refine WX.thenR ?_
            exact WX.ret1 rfl rfl ⟨_, rfl, ⟨_, rfl, fun h => by cases h⟩, hE0⟩
          ·
            have hnj : l[j].name.size ≤ 1048576 := by have := of_decide_eq_false hc34; omega
            refine WC.skip ?_
            refine WX.thenC ?_
            refine WC.seq ?_
            refine WC.region ?_
            refine WL.step (ok_move rfl) rfl ?_
            refine WL.step (ok_move rfl) rfl ?_
            refine WL.step (ok_move rfl) rfl ?_
            refine WL.step (ok_indexS _ rfl rfl rfl (by omega) Try.underlying57 sz64) rfl ?_
            refine WL.step (ok_field rfl fld64_1) rfl ?_
            refine WL.step (ok_load rfl one9 (rd_name hr ho j hlt)) rfl ?_
            refine WL.step (ok_lenString rfl Try.underlying9) rfl ?_
            refine WL.step (ok_addW rfl rfl) rfl ?_
            refine WL.step (ok_assign rfl) rfl ?_
            refine WL.nil ?_
            refine WX.thenC ?_
            refine WC.seq ?_
            refine WC.region ?_
            refine WL.step (ok_move rfl) rfl ?_
            refine WL.step (ok_gtr rfl rfl) rfl ?_
            refine WL.nil ?_
            refine WX.thenC ?_
            refine WC.cond rfl (fun hc44 => ?_) (fun hc44 => ?_)
            ·
              refine WC.seq ?_
              refine WC.region ?_
              refine WL.step (ok_assign rfl) rfl ?_
              refine WL.nil ?_
              refine WX.thenC ?_
              refine WC.ret ?_
              refine WX.blockR ?_
              refine WX.thenR ?_
              refine WX.thenR ?_
              refine WX.blockR ?_
              refine WX.thenR ?_
              exact WX.ret1 rfl rfl ⟨_, rfl, ⟨_, rfl, fun h => by cases h⟩, hE0⟩
            ·
              refine WC.skip ?_
              refine WX.blockN ?_
              refine WX.thenC ?_
              refine WC.region ?_
              refine WL.step (ok_move rfl) rfl ?_
              refine WL.step (ok_add ((j + 1 : Nat) : Int) rfl rfl (by omega) (by omega) (by omega)) rfl ?_
              refine WL.step (ok_assign rfl) rfl ?_
              refine WL.nil ?_
              exact WX.again (j + 1, _) (by repeat (first | exact trivial | refine ⟨rfl, ?_⟩)) ⟨by simp; omega, take_succ_all hsm hlt hnj, hE0⟩ (by simp; omega)
      ·
        have hge : j = l.length := by have := of_decide_eq_false hc21; omega
        have hal : ∀ x ∈ l, x.name.size ≤ 1048576 := by rw [hge, List.take_length] at hsm; exact hsm
        refine WC.exit ?_
        refine WX.thenE ?_
        refine WX.thenE ?_
        refine WX.blockHit ?_
        refine WX.thenC ?_
        refine WC.seq ?_
        refine WC.seq ?_
        refine WC.region ?_
        refine WL.step (ok_move rfl) rfl ?_
        refine WL.step (ok_lenString rfl Try.underlying9) rfl ?_
        refine WL.step (ok_gtr rfl rfl) rfl ?_
        refine WL.nil ?_
        refine WX.thenC ?_
        refine WC.cond rfl (fun hc47 => ?_) (fun hc47 => ?_)
        ·
          refine WC.seq ?_
          refine WC.region ?_
          refine WL.step (ok_assign rfl) rfl ?_
          refine WL.nil ?_
          refine WX.thenC ?_
          refine WC.ret ?_
          refine WX.thenR ?_
          exact WX.ret1 rfl rfl ⟨_, rfl, ⟨_, rfl, fun h => by cases h⟩, hE0⟩
        ·
          have hx2 : x2.size ≤ 1048576 := by have := of_decide_eq_false hc47; omega
          refine WC.skip ?_
          refine WX.thenC ?_
          refine WC.seq ?_
          refine WC.region ?_
          refine WL.step (ok_move rfl) rfl ?_
          refine WL.step (ok_move rfl) rfl ?_
          refine WL.step (ok_lenString rfl Try.underlying9) rfl ?_
          refine WL.step (ok_addW rfl rfl) rfl ?_
          refine WL.step (ok_assign rfl) rfl ?_
          refine WL.nil ?_
          refine WX.thenC ?_
          refine WC.seq ?_
          refine WC.seq ?_
          refine WC.region ?_
          refine WL.step (ok_move rfl) rfl ?_
          refine WL.step (ok_gtr rfl rfl) rfl ?_
          refine WL.nil ?_
          refine WX.thenC ?_
          refine WC.cond rfl (fun hc53 => ?_) (fun hc53 => ?_)
          ·
            refine WC.seq ?_
            refine WC.region ?_
            refine WL.step (ok_assign rfl) rfl ?_
            refine WL.nil ?_
            refine WX.thenC ?_
            refine WC.ret ?_
            refine WX.thenR ?_
            exact WX.ret1 rfl rfl ⟨_, rfl, ⟨_, rfl, fun h => by cases h⟩, hE0⟩
          ·
            refine WC.skip ?_
            refine WX.thenC ?_
            refine WC.seq ?_
            refine WC.region ?_
            refine WL.step (ok_assign rfl) rfl ?_
            refine WL.nil ?_
            refine WX.thenC ?_
            refine WC.ret ?_
            exact WX.ret1 rfl rfl ⟨_, rfl, ⟨_, rfl, fun _ => ⟨hal, hx2⟩⟩, hE0⟩
theorem bytesAfter (l : List Itm) (ho : OkI l) (a : Option Addr) (cap : Nat) (kv : Value) (w : World) (hI : ItemsAt w a l) :
    CallsV Try.prog 27 #[.slice a l.length cap, kv] w fun v w' => (∃ z, v = .bool z ∧ (z = true → (∀ x ∈ l, x.name.size ≤ 1048576))) ∧ Ext w w' := by
  refine calls_intro (args := [_, _]) Try.func27 rfl Try.ntmps27 rfl ?_
  refine WC.seq ?_
  refine WC.region ?_
  refine WL.box (c := _) rfl rfl rfl ?_
  intro b3 w3 hb3 ho3 hk3 hs3
  have hE0 := hk3
  refine WL.step (ok_assign rfl) rfl ?_
  refine WL.nil ?_
  refine WX.thenC ?_
  refine WC.seq ?_
  refine WC.region ?_
  refine WL.step (ok_assign rfl) rfl ?_
  refine WL.nil ?_
  refine WX.thenC ?_
  refine WC.seq ?_
  refine WC.seq ?_
  refine WC.region ?_
  refine WL.step (ok_move rfl) rfl ?_
  refine WL.step (ok_lenSlice rfl Try.underlying57) rfl ?_
  refine WL.step (ok_gtr rfl rfl) rfl ?_
  refine WL.nil ?_
  refine WX.thenC ?_
  refine WC.cond rfl (fun hc9 => ?_) (fun hc9 => ?_)
  ·
    refine WC.seq ?_
    refine WC.region ?_
    refine WL.step (ok_assign rfl) rfl ?_
    refine WL.nil ?_
    refine WX.thenC ?_
    refine WC.ret ?_
    refine WX.thenR ?_
    exact WX.ret1 rfl rfl ⟨_, rfl, ⟨_, rfl, fun h => by cases h⟩, hE0⟩
  ·
    have hn : l.length ≤ 1048576 := by have := of_decide_eq_false hc9; omega
    refine WC.skip ?_
    refine WX.thenC ?_
    refine WC.seq ?_
    refine WC.region ?_
    refine WL.step (ok_move rfl) rfl ?_
    refine WL.step (ok_move rfl) rfl ?_
    refine WL.step (ok_lenSlice rfl Try.underlying57) rfl ?_
    refine WL.step (ok_addW rfl rfl) rfl ?_
    refine WL.step (ok_assign rfl) rfl ?_
    refine WL.nil ?_
    refine WX.thenC ?_
    refine WC.seq ?_
    refine WC.seq ?_
    refine WC.region ?_
    refine WL.step (ok_move rfl) rfl ?_
    refine WL.step (ok_gtr rfl rfl) rfl ?_
    refine WL.nil ?_
    refine WX.thenC ?_
    refine WC.cond rfl (fun hc15 => ?_) (fun hc15 => ?_)
    ·
      refine WC.seq ?_
      refine WC.region ?_
      refine WL.step (ok_assign rfl) rfl ?_
      refine WL.nil ?_
      refine WX.thenC ?_
      refine WC.ret ?_
      refine WX.thenR ?_
      exact WX.ret1 rfl rfl ⟨_, rfl, ⟨_, rfl, fun h => by cases h⟩, hE0⟩
    ·
      refine WC.skip ?_
      refine WX.thenC ?_
      refine WC.seq ?_
      refine WC.seq ?_
      refine WC.region ?_
      refine WL.step (ok_assign rfl) rfl ?_
      refine WL.nil ?_
      refine WX.thenC ?_
      refine WC.block ?_
      refine WC.loop (fun x : Nat × Int => [(0, .slice a l.length cap), (5, .int .i64 x.2), (6, .int .i64 (x.1 : Nat))])
        (fun x w' => x.1 ≤ l.length ∧ (∀ y ∈ l.take x.1, y.name.size ≤ 1048576) ∧ Ext w w') (fun x => l.length - x.1) (0, _) (by repeat (first | exact trivial | refine ⟨rfl, ?_⟩)) ?_ ?_
      · exact ⟨by simp, by simp, hE0⟩
      rintro ⟨j, z⟩ w1 ⟨hjn, hsm, hE0⟩
      simp only at hjn hsm
      refine WC.seq ?_
      refine WC.seq ?_
      refine WC.region ?_
      refine WL.step (ok_move rfl) rfl ?_
      refine WL.step (ok_move rfl) rfl ?_
      refine WL.step (ok_lenSlice rfl Try.underlying57) rfl ?_
      refine WL.step (ok_lss rfl rfl) rfl ?_
      refine WL.nil ?_
      refine WX.thenC ?_
      refine WC.cond rfl (fun hc19 => ?_) (fun hc19 => ?_)
      ·
        have hlt : j < l.length := by have := of_decide_eq_true hc19; omega
        obtain ⟨b, off, rfl, hr⟩ := (hI.ext hE0).at hlt
        refine WC.skip ?_
        refine WX.thenC ?_
        refine WC.seq ?_
        refine WC.block ?_
        refine WC.seq ?_
        refine WC.condF rfl ?_
        refine WC.skip ?_
        refine WX.thenC ?_
        refine WC.seq ?_
        refine WC.region ?_
        refine WL.step (ok_move rfl) rfl ?_
        refine WL.step (ok_addW rfl rfl) rfl ?_
        refine WL.step (ok_assign rfl) rfl ?_
        refine WL.nil ?_
        refine WX.thenC ?_
        refine WC.seq ?_
        refine WC.seq ?_
        refine WC.region ?_
        refine WL.step (ok_move rfl) rfl ?_
        refine WL.step (ok_gtr rfl rfl) rfl ?_
        refine WL.nil ?_
        refine WX.thenC ?_
        refine WC.cond rfl (fun hc25 => ?_) (fun hc25 => ?_)
        ·
          refine WC.seq ?_
          refine WC.region ?_
          refine WL.step (ok_assign rfl) rfl ?_
          refine WL.nil ?_
          refine WX.thenC ?_
          refine WC.ret ?_
          refine WX.thenR ?_
          refine WX.blockR ?_
          refine WX.thenR ?_
          refine WX.thenR ?_
          refine WX.blockR ?_
          refine WX.thenR ?_
          exact WX.ret1 rfl rfl ⟨_, rfl, ⟨_, rfl, fun h => by cases h⟩, hE0⟩
        ·
          refine WC.skip ?_
          refine WX.thenC ?_
          refine WC.seq ?_
          refine WC.seq ?_
          refine WC.region ?_
          refine WL.step (ok_move rfl) rfl ?_
          refine WL.step (ok_move rfl) rfl ?_
          refine WL.step (ok_indexS _ rfl rfl rfl (by omega) Try.underlying57 sz64) rfl ?_
          refine WL.step (ok_field rfl fld64_1) rfl ?_
          refine WL.step (ok_load rfl one9 (rd_name hr ho j hlt)) rfl ?_
          refine WL.step (ok_lenString rfl Try.underlying9) rfl ?_
          refine WL.step (ok_gtr rfl rfl) rfl ?_
          refine WL.nil ?_
          refine WX.thenC ?_
          refine WC.cond rfl (fun hc32 => ?_) (fun hc32 => ?_)
          ·
            refine WC.seq ?_
            refine WC.region ?_
            refine WL.step (ok_assign rfl) rfl ?_
            refine WL.nil ?_
            refine WX.thenC ?_
            refine WC.ret ?_
            refine WX.thenR ?_
            refine WX.blockR ?_
            refine WX.thenR ?_
            refine WX.thenR ?_
            refine WX.blockR ?_
            refine WX.thenR ?_
            exact WX.ret1 rfl rfl ⟨_, rfl, ⟨_, rfl, fun h => by cases h⟩, hE0⟩
          ·
            have hnj : l[j].name.size ≤ 1048576 := by have := of_decide_eq_false hc32; omega
            refine WC.skip ?_
            refine WX.thenC ?_
            refine WC.seq ?_
            refine WC.region ?_
            refine WL.step (ok_move rfl) rfl ?_
            refine WL.step (ok_move rfl) rfl ?_
            refine WL.step (ok_move rfl) rfl ?_
            refine WL.step (ok_indexS _ rfl rfl rfl (by omega) Try.underlying57 sz64) rfl ?_
            refine WL.step (ok_field rfl fld64_1) rfl ?_
            refine WL.step (ok_load rfl one9 (rd_name hr ho j hlt)) rfl ?_
            refine WL.step (ok_lenString rfl Try.underlying9) rfl ?_
            refine WL.step (ok_addW rfl rfl) rfl ?_
            refine WL.step (ok_assign rfl) rfl ?_
            refine WL.nil ?_
            refine WX.thenC ?_
            refine WC.seq ?_
            refine WC.region ?_
            refine WL.step (ok_move rfl) rfl ?_
            refine WL.step (ok_gtr rfl rfl) rfl ?_
            refine WL.nil ?_
            refine WX.thenC ?_
            refine WC.cond rfl (fun hc42 => ?_) (fun hc42 => ?_)
            ·
              refine WC.seq ?_
              refine WC.region ?_
              refine WL.step (ok_assign rfl) rfl ?_
              refine WL.nil ?_
              refine WX.thenC ?_
              refine WC.ret ?_
              refine WX.blockR ?_
              refine WX.thenR ?_
              refine WX.thenR ?_
              refine WX.blockR ?_
              refine WX.thenR ?_
              exact WX.ret1 rfl rfl ⟨_, rfl, ⟨_, rfl, fun h => by cases h⟩, hE0⟩
            ·
              refine WC.skip ?_
              refine WX.blockN ?_
              refine WX.thenC ?_
              refine WC.region ?_
              refine WL.step (ok_move rfl) rfl ?_
              refine WL.step (ok_add ((j + 1 : Nat) : Int) rfl rfl (by omega) (by omega) (by omega)) rfl ?_
              refine WL.step (ok_assign rfl) rfl ?_
              refine WL.nil ?_
              exact WX.again (j + 1, _) (by repeat (first | exact trivial | refine ⟨rfl, ?_⟩)) ⟨by simp; omega, take_succ_all hsm hlt hnj, hE0⟩ (by simp; omega)
      ·
        have hge : j = l.length := by have := of_decide_eq_false hc19; omega
        have hal : ∀ x ∈ l, x.name.size ≤ 1048576 := by rw [hge, List.take_length] at hsm; exact hsm
        refine WC.exit ?_
        refine WX.thenE ?_
        refine WX.thenE ?_
        refine WX.blockHit ?_
        refine WX.thenC ?_
        refine WC.seq ?_
        refine WC.region ?_
        refine WL.step (ok_assign rfl) rfl ?_
        refine WL.nil ?_
        refine WX.thenC ?_
        refine WC.ret ?_
        exact WX.ret1 rfl rfl ⟨_, rfl, ⟨_, rfl, fun _ => hal⟩, hE0⟩
theorem bytesSplices (l : List Itm) (ho : OkI l) (a : Option Addr) (cap : Nat) (kv : Value) (x2 : ByteArray) (va : Option Addr) (vn vcap : Nat) (u : Value) (w : World) (hI : ItemsAt w a l) :
    CallsV Try.prog 39 #[.slice a l.length cap, kv, .string x2, .slice va vn vcap, u] w fun v w' => (∃ z, v = .bool z ∧ (z = true → (∀ x ∈ l, x.name.size ≤ 1048576) ∧ x2.size ≤ 1048576 ∧ vn ≤ 1048576)) ∧ Ext w w' := by
  refine calls_intro (args := [_, _, _, _, _]) Try.func39 rfl Try.ntmps39 rfl ?_
  refine WC.seq ?_
  refine WC.region ?_
  refine WL.box (c := _) rfl rfl rfl ?_
  intro b6 w6 hb6 ho6 hk6 hs6
  have hE0 := hk6
  refine WL.step (ok_assign rfl) rfl ?_
  refine WL.nil ?_
  refine WX.thenC ?_
  refine WC.seq ?_
  refine WC.region ?_
  refine WL.step (ok_assign rfl) rfl ?_
  refine WL.nil ?_
  refine WX.thenC ?_
  refine WC.seq ?_
  refine WC.seq ?_
  refine WC.region ?_
  refine WL.step (ok_move rfl) rfl ?_
  refine WL.step (ok_lenSlice rfl Try.underlying57) rfl ?_
  refine WL.step (ok_gtr rfl rfl) rfl ?_
  refine WL.nil ?_
  refine WX.thenC ?_
  refine WC.cond rfl (fun hc15 => ?_) (fun hc15 => ?_)
  ·
    refine WC.seq ?_
    refine WC.region ?_
    refine WL.step (ok_assign rfl) rfl ?_
    refine WL.nil ?_
    refine WX.thenC ?_
    refine WC.ret ?_
    refine WX.thenR ?_
    exact WX.ret1 rfl rfl ⟨_, rfl, ⟨_, rfl, fun h => by cases h⟩, hE0⟩
  ·
    have hn : l.length ≤ 1048576 := by have := of_decide_eq_false hc15; omega
    refine WC.skip ?_
    refine WX.thenC ?_
    refine WC.seq ?_
    refine WC.region ?_
    refine WL.step (ok_move rfl) rfl ?_
    refine WL.step (ok_move rfl) rfl ?_
    refine WL.step (ok_lenSlice rfl Try.underlying57) rfl ?_
    refine WL.step (ok_addW rfl rfl) rfl ?_
    refine WL.step (ok_assign rfl) rfl ?_
    refine WL.nil ?_
    refine WX.thenC ?_
    refine WC.seq ?_
    refine WC.seq ?_
    refine WC.region ?_
    refine WL.step (ok_move rfl) rfl ?_
    refine WL.step (ok_gtr rfl rfl) rfl ?_
    refine WL.nil ?_
    refine WX.thenC ?_
    refine WC.cond rfl (fun hc21 => ?_) (fun hc21 => ?_)
    ·
      refine WC.seq ?_
      refine WC.region ?_
      refine WL.step (ok_assign rfl) rfl ?_
      refine WL.nil ?_
      refine WX.thenC ?_
      refine WC.ret ?_
      refine WX.thenR ?_
      exact WX.ret1 rfl rfl ⟨_, rfl, ⟨_, rfl, fun h => by cases h⟩, hE0⟩
    ·
      refine WC.skip ?_
      refine WX.thenC ?_
      refine WC.seq ?_
      refine WC.seq ?_
      refine WC.region ?_
      refine WL.step (ok_assign rfl) rfl ?_
      refine WL.nil ?_
      refine WX.thenC ?_
      refine WC.block ?_
      refine WC.loop (fun x : Nat × Int => [(0, .slice a l.length cap), (2, .string x2), (3, .slice va vn vcap), (11, .int .i64 x.2), (12, .int .i64 (x.1 : Nat))])
        (fun x w' => x.1 ≤ l.length ∧ (∀ y ∈ l.take x.1, y.name.size ≤ 1048576) ∧ Ext w w') (fun x => l.length - x.1) (0, _) (by repeat (first | exact trivial | refine ⟨rfl, ?_⟩)) ?_ ?_
      · exact ⟨by simp, by simp, hE0⟩
      rintro ⟨j, z⟩ w1 ⟨hjn, hsm, hE0⟩
      simp only at hjn hsm
      refine WC.seq ?_
      refine WC.seq ?_
      refine WC.region ?_
      refine WL.step (ok_move rfl) rfl ?_
      refine WL.step (ok_move rfl) rfl ?_
      refine WL.step (ok_lenSlice rfl Try.underlying57) rfl ?_
      refine WL.step (ok_lss rfl rfl) rfl ?_
      refine WL.nil ?_
      refine WX.thenC ?_
      refine WC.cond rfl (fun hc25 => ?_) (fun hc25 => ?_)
      ·
        have hlt : j < l.length := by have := of_decide_eq_true hc25; omega
        obtain ⟨b, off, rfl, hr⟩ := (hI.ext hE0).at hlt
        refine WC.skip ?_
        refine WX.thenC ?_
        refine WC.seq ?_
        refine WC.block ?_
        refine WC.seq ?_
        refine WC.condF rfl ?_
        refine WC.skip ?_
        refine WX.thenC ?_
        refine WC.seq ?_
        refine WC.region ?_
        refine WL.step (ok_move rfl) rfl ?_
        refine WL.step (ok_addW rfl rfl) rfl ?_
        refine WL.step (ok_assign rfl) rfl ?_
        refine WL.nil ?_
        refine WX.thenC ?_
        refine WC.seq ?_
        refine WC.seq ?_
        refine WC.region ?_
        refine WL.step (ok_move rfl) rfl ?_
        refine WL.step (ok_gtr rfl rfl) rfl ?_
        refine WL.nil ?_
        refine WX.thenC ?_
        refine WC.cond rfl (fun hc31 => ?_) (fun hc31 => ?_)
        ·
          refine WC.seq ?_
          refine WC.region ?_
          refine WL.step (ok_assign rfl) rfl ?_
          refine WL.nil ?_
          refine WX.thenC ?_
          refine WC.ret ?_
          refine WX.thenR ?_
          refine WX.blockR ?_
          refine WX.thenR ?_
          refine WX.thenR ?_
          refine WX.blockR ?_
          refine WX.thenR ?_
          exact WX.ret1 rfl rfl ⟨_, rfl, ⟨_, rfl, fun h => by cases h⟩, hE0⟩
        ·
          refine WC.skip ?_
          refine WX.thenC ?_
          refine WC.seq ?_
          refine WC.seq ?_
          refine WC.region ?_
          refine WL.step (ok_move rfl) rfl ?_
          refine WL.step (ok_move rfl) rfl ?_
          refine WL.step (ok_indexS _ rfl rfl rfl (by omega) Try.underlying57 sz64) rfl ?_
          refine WL.step (ok_field rfl fld64_1) rfl ?_
          refine WL.step (ok_load rfl one9 (rd_name hr ho j hlt)) rfl ?_
          refine WL.step (ok_lenString rfl Try.underlying9) rfl ?_
          refine WL.step (ok_gtr rfl rfl) rfl ?_
          refine WL.nil ?_
          refine WX.thenC ?_
          refine WC.cond rfl (fun hc38 => ?_) (fun hc38 => ?_)
          ·
            refine WC.seq ?_
            refine WC.region ?_
            refine WL.step (ok_assign rfl) rfl ?_
            refine WL.nil ?_
            refine WX.thenC ?_
            refine WC.ret ?_
            refine WX.thenR ?_
            refine WX.blockR ?_
            refine WX.thenR ?_
            refine WX.thenR ?_
            refine WX.blockR ?_
            refine WX.thenR ?_
            exact WX.ret1 rfl rfl ⟨_, rfl, ⟨_, rfl, fun h => by cases h⟩, hE0⟩
          ·
            have hnj : l[j].name.size ≤ 1048576 := by have := of_decide_eq_false hc38; omega
            refine WC.skip ?_
            refine WX.thenC ?_
            refine WC.seq ?_
            refine WC.region ?_
            refine WL.step (ok_move rfl) rfl ?_
            refine WL.step (ok_move rfl) rfl ?_
            refine WL.step (ok_move rfl) rfl ?_
            refine WL.step (ok_indexS _ rfl rfl rfl (by omega) Try.underlying57 sz64) rfl ?_
            refine WL.step (ok_field rfl fld64_1) rfl ?_
            refine WL.step (ok_load rfl one9 (rd_name hr ho j hlt)) rfl ?_
            refine WL.step (ok_lenString rfl Try.underlying9) rfl ?_
            refine WL.step (ok_addW rfl rfl) rfl ?_
            refine WL.step (ok_assign rfl) rfl ?_
            refine WL.nil ?_
            refine WX.thenC ?_
            refine WC.seq ?_
            refine WC.region ?_
            refine WL.step (ok_move rfl) rfl ?_
            refine WL.step (ok_gtr rfl rfl) rfl ?_
            refine WL.nil ?_
            refine WX.thenC ?_
            refine WC.cond rfl (fun hc48 => ?_) (fun hc48 => ?_)
            ·
              refine WC.seq ?_
              refine WC.region ?_
              refine WL.step (ok_assign rfl) rfl ?_
              refine WL.nil ?_
              refine WX.thenC ?_
              refine WC.ret ?_
              refine WX.blockR ?_
              refine WX.thenR ?_
              refine WX.thenR ?_
              refine WX.blockR ?_
              refine WX.thenR ?_
              exact WX.ret1 rfl rfl ⟨_, rfl, ⟨_, rfl, fun h => by cases h⟩, hE0⟩
            ·
              refine WC.skip ?_
              refine WX.blockN ?_
              refine WX.thenC ?_
              refine WC.region ?_
              refine WL.step (ok_move rfl) rfl ?_
              refine WL.step (ok_add ((j + 1 : Nat) : Int) rfl rfl (by omega) (by omega) (by omega)) rfl ?_
              refine WL.step (ok_assign rfl) rfl ?_
              refine WL.nil ?_
              exact WX.again (j + 1, _) (by repeat (first | exact trivial | refine ⟨rfl, ?_⟩)) ⟨by simp; omega, take_succ_all hsm hlt hnj, hE0⟩ (by simp; omega)
      ·
        have hge : j = l.length := by have := of_decide_eq_false hc25; omega
        have hal : ∀ x ∈ l, x.name.size ≤ 1048576 := by rw [hge, List.take_length] at hsm; exact hsm
        refine WC.exit ?_
        refine WX.thenE ?_
        refine WX.thenE ?_
        refine WX.blockHit ?_
        refine WX.thenC ?_
        refine WC.seq ?_
        refine WC.seq ?_
        refine WC.region ?_
        refine WL.step (ok_move rfl) rfl ?_
        refine WL.step (ok_lenString rfl Try.underlying9) rfl ?_
        refine WL.step (ok_gtr rfl rfl) rfl ?_
        refine WL.nil ?_
        refine WX.thenC ?_
        refine WC.cond rfl (fun hc51 => ?_) (fun hc51 => ?_)
        ·
          refine WC.seq ?_
          refine WC.region ?_
          refine WL.step (ok_assign rfl) rfl ?_
          refine WL.nil ?_
          refine WX.thenC ?_
          refine WC.ret ?_
          refine WX.thenR ?_
          exact WX.ret1 rfl rfl ⟨_, rfl, ⟨_, rfl, fun h => by cases h⟩, hE0⟩
        ·
          have hx2 : x2.size ≤ 1048576 := by have := of_decide_eq_false hc51; omega
          refine WC.skip ?_
          refine WX.thenC ?_
          refine WC.seq ?_
          refine WC.region ?_
          refine WL.step (ok_move rfl) rfl ?_
          refine WL.step (ok_move rfl) rfl ?_
          refine WL.step (ok_lenString rfl Try.underlying9) rfl ?_
          refine WL.step (ok_addW rfl rfl) rfl ?_
          refine WL.step (ok_assign rfl) rfl ?_
          refine WL.nil ?_
          refine WX.thenC ?_
          refine WC.seq ?_
          refine WC.seq ?_
          refine WC.region ?_
          refine WL.step (ok_move rfl) rfl ?_
          refine WL.step (ok_gtr rfl rfl) rfl ?_
          refine WL.nil ?_
          refine WX.thenC ?_
          refine WC.cond rfl (fun hc57 => ?_) (fun hc57 => ?_)
          ·
            refine WC.seq ?_
            refine WC.region ?_
            refine WL.step (ok_assign rfl) rfl ?_
            refine WL.nil ?_
            refine WX.thenC ?_
            refine WC.ret ?_
            refine WX.thenR ?_
            exact WX.ret1 rfl rfl ⟨_, rfl, ⟨_, rfl, fun h => by cases h⟩, hE0⟩
          ·
            refine WC.skip ?_
            refine WX.thenC ?_
            refine WC.seq ?_
            refine WC.seq ?_
            refine WC.region ?_
            refine WL.step (ok_move rfl) rfl ?_
            refine WL.step (ok_lenSlice rfl Try.underlying30) rfl ?_
            refine WL.step (ok_gtr rfl rfl) rfl ?_
            refine WL.nil ?_
            refine WX.thenC ?_
            refine WC.cond rfl (fun hc60 => ?_) (fun hc60 => ?_)
            ·
              refine WC.seq ?_
              refine WC.region ?_
              refine WL.step (ok_assign rfl) rfl ?_
              refine WL.nil ?_
              refine WX.thenC ?_
              refine WC.ret ?_
              refine WX.thenR ?_
              exact WX.ret1 rfl rfl ⟨_, rfl, ⟨_, rfl, fun h => by cases h⟩, hE0⟩
            ·
              have hvn : vn ≤ 1048576 := by have := of_decide_eq_false hc60; omega
              refine WC.skip ?_
              refine WX.thenC ?_
              refine WC.seq ?_
              refine WC.region ?_
              refine WL.step (ok_move rfl) rfl ?_
              refine WL.step (ok_move rfl) rfl ?_
              refine WL.step (ok_lenSlice rfl Try.underlying30) rfl ?_
              refine WL.step (ok_addW rfl rfl) rfl ?_
              refine WL.step (ok_assign rfl) rfl ?_
              refine WL.nil ?_
              refine WX.thenC ?_
              refine WC.seq ?_
              refine WC.seq ?_
              refine WC.region ?_
              refine WL.step (ok_move rfl) rfl ?_
              refine WL.step (ok_gtr rfl rfl) rfl ?_
              refine WL.nil ?_
              refine WX.thenC ?_
              refine WC.cond rfl (fun hc66 => ?_) (fun hc66 => ?_)
              ·
                refine WC.seq ?_
                refine WC.region ?_
                refine WL.step (ok_assign rfl) rfl ?_
                refine WL.nil ?_
                refine WX.thenC ?_
                refine WC.ret ?_
                refine WX.thenR ?_
                exact WX.ret1 rfl rfl ⟨_, rfl, ⟨_, rfl, fun h => by cases h⟩, hE0⟩
              ·
                refine WC.skip ?_
                refine WX.thenC ?_
                refine WC.seq ?_
                refine WC.region ?_
                refine WL.step (ok_assign rfl) rfl ?_
                refine WL.nil ?_
                refine WX.thenC ?_
                refine WC.ret ?_
                exact WX.ret1 rfl rfl ⟨_, rfl, ⟨_, rfl, fun _ => ⟨hal, hx2, hvn⟩⟩, hE0⟩
theorem shelfRuns (sb so : Nat) (hd : Value) (w : World) (h : w.cell? ⟨sb, so, none⟩ = some hd) :
    CallsV Try.prog 21 #[.pointer (some ⟨sb, so, none⟩)] w fun v w' => v = hd ∧ w' = w := by
  refine calls_intro (args := [_]) Try.func21 rfl Try.ntmps21 rfl ?_
  refine WC.seq ?_
  refine WC.region ?_
  refine WL.step (ok_assign rfl) rfl ?_
  refine WL.nil ?_
  refine WX.thenC ?_
  refine WC.seq ?_
  refine WC.region ?_
  refine WL.step (ok_move rfl) rfl ?_
  refine WL.step (ok_nilCheck rfl) rfl ?_
  refine WL.step (ok_field rfl fld80_0) rfl ?_
  refine WL.step (ok_load rfl one45 (h)) rfl ?_
  refine WL.step (ok_assign rfl) rfl ?_
  refine WL.nil ?_
  refine WX.thenC ?_
  refine WC.ret ?_
  exact WX.ret1 rfl rfl ⟨_, rfl, rfl, rfl⟩

end Go.Proofs.Try
