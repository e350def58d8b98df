/- Walks: the digest's term. -/
import Derived.Test.Qxb6605723aW3
import Derived.Test.Qxb6605723aSlt
import Derived.Test.Qxb6605723aFnv
set_option linter.unusedVariables false
set_option linter.unusedSimpArgs false
set_option maxRecDepth 100000
namespace Go.Proofs.Try
open Go.Sx Go.Pl

theorem isfn94 : IsFn Try.prog 94 := ⟨_, Try.func94, by kernel_rfl, rfl⟩
theorem isfn95 : IsFn Try.prog 95 := ⟨_, Try.func95, by kernel_rfl, rfl⟩
theorem mth_of (t : TypeId) (name : String) (f : FuncId) (e : TypeId) (h : (Try.prog.info? t).bind (fun i => (i.methods.find? (·.name == name)).map (fun m => (m.path.size, m.func))) = some (0, some (f, true))) (hu : Try.prog.underlying t = some (.pointer e)) : Mth Try.prog t name f := by
  cases hi : Try.prog.info? t with
  | none => rw [hi] at h; cases h
  | some i =>
    rw [hi] at h
    simp only [Option.bind_some] at h
    cases hm : i.methods.find? (·.name == name) with
    | none => rw [hm] at h; cases h
    | some m =>
      rw [hm] at h
      simp only [Option.map_some, Option.some.injEq, Prod.mk.injEq] at h
      exact ⟨i, m, e, hi, hm, Array.eq_empty_of_size_eq_zero h.1, h.2, hu⟩
theorem mthWrite : Mth Try.prog 118 "Write" 95 := mth_of 118 "Write" 95 117 (by kernel_rfl) Try.underlying118
theorem mthSum64 : Mth Try.prog 118 "Sum64" 94 := mth_of 118 "Sum64" 94 117 (by kernel_rfl) Try.underlying118

theorem new64a (w : World) :
    CallsV Try.prog 54 #[] w fun v w' => ∃ b, v = .iface 118 (.pointer (some ⟨b, 0, none⟩)) ∧ b = w.heap.size ∧ Own w' b 117 [.int .u64 (14695981039346656037 : Nat)] ∧ Ext w w' := by
  refine calls_intro (args := []) Try.func54 rfl Try.ntmps54 rfl ?_
  refine WC.seq ?_
  refine WC.region ?_
  refine WL.step (ok_assign rfl) rfl ?_
  refine WL.nil ?_
  refine WX.thenC ?_
  refine WC.seq ?_
  refine WC.region ?_
  refine WL.alloc zero117 rfl ?_
  intro b1 w1 hb1 ho1 hk1 hs1
  refine WL.store rfl rfl sz117 (ho1) (by simp [Value.cells]) (by simp [Value.cells]) (by simp [Value.cells, Value.oneCell']) ?_
  intro wr1 hor1 hkr1 hsr1
  refine WL.nil ?_
  refine WX.thenC ?_
  refine WC.seq ?_
  refine WC.region ?_
  refine WL.step (ok_makeIface rfl (by kernel_rfl)) rfl ?_
  refine WL.step (ok_assign rfl) rfl ?_
  refine WL.nil ?_
  refine WX.thenC ?_
  refine WC.ret ?_
  exact WX.ret1 rfl rfl ⟨_, rfl, b1, rfl, hb1, hor1, hk1.over hkr1 (fun i hi e => by omega)⟩
theorem sum64 (b h : Nat) (w : World) (ho : Own w b 117 [.int .u64 (h : Nat)]) :
    CallsV Try.prog 94 #[.pointer (some ⟨b, 0, none⟩)] w fun v w' => v = .int .u64 (h : Nat) ∧ w' = w := by
  refine calls_intro (args := [_]) Try.func94 rfl Try.ntmps94 rfl ?_
  refine WC.seq ?_
  refine WC.region ?_
  refine WL.step (ok_assign rfl) rfl ?_
  refine WL.nil ?_
  refine WX.thenC ?_
  refine WC.seq ?_
  refine WC.region ?_
  refine WL.step (ok_move rfl) rfl ?_
  refine WL.step (ok_nilCheck rfl) rfl ?_
  refine WL.step (ok_load rfl one117 (ho.cell 0)) rfl ?_
  refine WL.step (ok_assign rfl) rfl ?_
  refine WL.nil ?_
  refine WX.thenC ?_
  refine WC.ret ?_
  exact WX.ret1 rfl rfl ⟨_, rfl, rfl, rfl⟩
theorem writeW (hb h : Nat) (hh : h < 2 ^ 64) (l : List UInt8) (hl : l.length ≤ 9223372036854775806) (a : Option Addr) (cap : Nat) (w : World) (ho : Own w hb 117 [.int .u64 (h : Nat)]) (hB : BytesAt w a l) :
    CallsV Try.prog 95 #[.pointer (some ⟨hb, 0, none⟩), .slice a l.length cap] w fun v w' => Own w' hb 117 [.int .u64 (fnvL h l : Nat)] ∧ Kp (· = hb) w w' ∧ w'.heap.size = w.heap.size := by
  refine calls_intro (args := [_, _]) Try.func95 rfl Try.ntmps95 rfl ?_
  refine WC.seq ?_
  refine WC.region ?_
  refine WL.step (ok_assign rfl) rfl ?_
  refine WL.step (ok_assign rfl) rfl ?_
  refine WL.nil ?_
  refine WX.thenC ?_
  refine WC.seq ?_
  refine WC.region ?_
  refine WL.step (ok_move rfl) rfl ?_
  refine WL.step (ok_nilCheck rfl) rfl ?_
  refine WL.step (ok_load rfl one117 (ho.cell 0)) rfl ?_
  refine WL.step (ok_assign rfl) rfl ?_
  refine WL.nil ?_
  refine WX.thenC ?_
  refine WC.seq ?_
  refine WC.seq ?_
  refine WC.region ?_
  refine WL.step (ok_move rfl) rfl ?_
  refine WL.step (ok_lenSlice rfl Try.underlying30) rfl ?_
  refine WL.step (ok_move rfl) rfl ?_
  refine WL.nil ?_
  refine WX.thenC ?_
  refine WC.block ?_
  refine WC.loop (fun k : Nat => [(0, .pointer (some ⟨hb, 0, none⟩)), (1, .slice a l.length cap), (6, .int .u64 (fnvL h (l.take k) : Nat)), (12, .slice a l.length cap), (13, .int .i64 (l.length : Nat)), (14, .int .i64 (k : Nat))])
    (fun k w' => k ≤ l.length ∧ w' = w) (fun k => l.length - k) 0 (by repeat (first | exact trivial | refine ⟨rfl, ?_⟩)) ?_ ?_
  · exact ⟨by omega, rfl⟩
  rintro k w1 ⟨hkn, rfl⟩
  have hf := fnvL_lt (l.take k) h hh
  have h8 := at8_lt l k
  refine WC.seq ?_
  refine WC.region ?_
  refine WL.step (ok_lss rfl rfl) rfl ?_
  refine WL.nil ?_
  refine WX.thenC ?_
  refine WC.seq ?_
  refine WC.cond rfl (fun hc15 => ?_) (fun hc15 => ?_)
  ·
    have hlt : k < l.length := by have := of_decide_eq_true hc15; omega
    obtain ⟨b, off, rfl, hr⟩ := hB.at hlt
    refine WC.skip ?_
    refine WX.thenC ?_
    refine WC.seq ?_
    refine WC.block ?_
    refine WC.seq ?_
    refine WC.region ?_
    refine WL.step (ok_indexS _ rfl rfl rfl (by omega) Try.underlying30 sz5) rfl ?_
    refine WL.step (ok_load rfl one5 (rd_byte hr k hlt)) rfl ?_
    refine WL.step (ok_assign rfl) rfl ?_
    refine WL.nil ?_
    refine WX.thenC ?_
    refine WC.seq ?_
    refine WC.region ?_
    refine WL.step (ok_move rfl) rfl ?_
    refine WL.step (ok_move rfl) rfl ?_
    refine WL.step (ok_convN rfl rfl Try.underlying117 rfl (by simp only [IntKind.bits]; omega)) rfl ?_
    refine WL.step (ok_xorN rfl rfl rfl (by simp only [IntKind.bits]; exact hf) (by simp only [IntKind.bits]; omega)) rfl ?_
    refine WL.step (ok_assign rfl) rfl ?_
    refine WL.nil ?_
    refine WX.thenC ?_
    refine WC.region ?_
    refine WL.step (ok_move rfl) rfl ?_
    refine WL.step (ok_mulN (b := 1099511628211) rfl rfl rfl rfl) rfl ?_
    refine WL.step (ok_assign rfl) rfl ?_
    refine WL.nil ?_
    refine WX.blockN ?_
    refine WX.thenC ?_
    refine WC.region ?_
    refine WL.step (ok_add ((k + 1 : Nat) : Int) rfl rfl (by omega) (by omega) (by omega)) rfl ?_
    refine WL.step (ok_move rfl) rfl ?_
    refine WL.nil ?_
    exact WX.again (k + 1) ⟨rfl, rfl, by rw [fnvL_take_succ h l k hlt, ← fnvStep_eq]; rfl, rfl, rfl, rfl, trivial⟩ ⟨by omega, rfl⟩ (by omega)
  ·
    have hge : k = l.length := by have := of_decide_eq_false hc15; omega
    refine WC.exit ?_
    refine WX.thenE ?_
    refine WX.thenE ?_
    refine WX.blockHit ?_
    refine WX.thenC ?_
    refine WC.seq ?_
    refine WC.region ?_
    refine WL.step (ok_move rfl) rfl ?_
    refine WL.step (ok_move rfl) rfl ?_
    refine WL.step (ok_nilCheck rfl) rfl ?_
    refine WL.store rfl rfl sz117 (ho) (by simp [Value.cells]) (by simp [Value.cells]) (by simp [Value.cells, Value.oneCell']) ?_
    intro wr8 hor8 hkr8 hsr8
    refine WL.nil ?_
    refine WX.thenC ?_
    refine WC.seq ?_
    refine WC.region ?_
    refine WL.step (ok_move rfl) rfl ?_
    refine WL.step (ok_lenSlice rfl Try.underlying30) rfl ?_
    refine WL.step (ok_assign rfl) rfl ?_
    refine WL.step (ok_assign rfl) rfl ?_
    refine WL.nil ?_
    refine WX.thenC ?_
    refine WC.ret ?_
    exact WX.ret2 rfl rfl rfl ⟨_, rfl, by rw [hge, List.take_length] at hor8; exact hor8, hkr8, hsr8⟩
theorem putUvarint (b x : Nat) (hx : x < 128 ^ 9) (e : TypeId) (c : List Value) (hc : c.length = 10) (w : World) (ho : Own w b e c) :
    CallsV Try.prog 55 #[.slice (some ⟨b, 0, none⟩) 10 10, .int .u64 (x : Nat)] w fun v w' => v = .int .i64 ((uv x).length : Nat) ∧ Own w' b e (kc (uv x) ++ c.drop (uv x).length) ∧ Kp (· = b) w w' ∧ w'.heap.size = w.heap.size := by
  refine calls_intro (args := [_, _]) Try.func55 rfl Try.ntmps55 rfl ?_
  refine WC.seq ?_
  refine WC.region ?_
  refine WL.step (ok_assign rfl) rfl ?_
  refine WL.nil ?_
  refine WX.thenC ?_
  refine WC.seq ?_
  refine WC.region ?_
  refine WL.step (ok_assign rfl) rfl ?_
  refine WL.nil ?_
  refine WX.thenC ?_
  refine WC.seq ?_
  refine WC.block ?_
  refine WC.loop (fun z : Nat × Nat × List UInt8 => [(0, .slice (some ⟨b, 0, none⟩) 10 10), (1, .int .u64 (z.1 : Nat)), (5, .int .i64 (z.2.2.length : Nat))])
    (fun z w' => z.2.1 + z.2.2.length = 10 ∧ z.1 < 128 ^ z.2.1 ∧ 0 < z.2.1 ∧ uv x = z.2.2 ++ uvF z.2.1 z.1 ∧ Own w' b e (kc z.2.2 ++ c.drop z.2.2.length) ∧ Kp (· = b) w w' ∧ w'.heap.size = w.heap.size) (fun z => z.1) (x, 10, []) (by repeat (first | exact trivial | refine ⟨rfl, ?_⟩)) ?_ ?_
  · exact ⟨rfl, (by show x < 128 ^ 10; exact Nat.lt_trans hx (by decide)), (by show 0 < 10; decide), rfl, by simpa [kc] using ho, Kp.refl _ _, rfl⟩
  rintro ⟨y, f, p⟩ w1 ⟨hfp, hy, hf0, huv, hO, hK, hsz⟩
  simp only at hfp hy hf0 huv hO
  dsimp only
  refine WC.seq ?_
  refine WC.seq ?_
  refine WC.region ?_
  refine WL.step (ok_move rfl) rfl ?_
  refine WL.step (ok_geq rfl rfl) rfl ?_
  refine WL.nil ?_
  refine WX.thenC ?_
  refine WC.cond rfl (fun hc7 => ?_) (fun hc7 => ?_)
  ·
    have hge : 128 ≤ y := by have := of_decide_eq_true hc7; omega
    refine WC.skip ?_
    refine WX.thenC ?_
    refine WC.block ?_
    refine WC.seq ?_
    refine WC.region ?_
    refine WL.step (ok_move rfl) rfl ?_
    refine WL.step (ok_move rfl) rfl ?_
    refine WL.step (ok_move rfl) rfl ?_
    refine WL.step (ok_convM rfl rfl Try.underlying5 rfl) rfl ?_
    refine WL.step (ok_orL (b := 128) rfl rfl rfl (Nat.mod_lt _ (by decide)) (by decide)) rfl ?_
    refine WL.step (ok_indexS p.length rfl rfl rfl (by omega) Try.underlying30 sz5) rfl ?_
    refine WL.store rfl rfl sz5 (hO) (by simp [Value.cells]) (by simp [Value.cells, hc]; omega) (by simp [Value.cells, Value.oneCell']) ?_
    intro wr3 hor3 hkr3 hsr3
    refine WL.nil ?_
    refine WX.thenC ?_
    refine WC.seq ?_
    refine WC.region ?_
    refine WL.step (ok_move rfl) rfl ?_
    refine WL.step (ok_shrN 7 rfl rfl rfl (by simp [IntKind.bits])) rfl ?_
    refine WL.step (ok_assign rfl) rfl ?_
    refine WL.nil ?_
    refine WX.thenC ?_
    refine WC.region ?_
    refine WL.step (ok_move rfl) rfl ?_
    refine WL.step (ok_add ((p.length + 1 : Nat) : Int) rfl rfl (by omega) (by omega) (by omega)) rfl ?_
    refine WL.step (ok_assign rfl) rfl ?_
    refine WL.nil ?_
    refine WX.blockN ?_
    obtain ⟨f', rfl, hf1, hy'⟩ := pow128 f y hge hy
    refine WX.again (y / 128, f', p ++ [UInt8.ofNat (y % 128 + 128)]) ⟨rfl, rfl, ?_, trivial⟩ ⟨by simp; omega, hy', hf1, ?_, ?_, hK.trans hkr3, by rw [hsr3, hsz]⟩ (by show y / 128 < y; omega)
    · show some _ = some _; simp
    · rw [huv, uvF, if_neg (by omega)]; simp
    · have e1 : splice (kc p ++ c.drop p.length) (0 + p.length * 1) (Value.int .u8 ((y % 2 ^ IntKind.u8.bits ||| 128 : Nat))).cells.toList = kc (p ++ [UInt8.ofNat (y % 128 + 128)]) ++ c.drop (p ++ [UInt8.ofNat (y % 128 + 128)]).length := by
        rw [splice_mid _ _ _ _ (by simp)]
        simp only [Value.cells, IntKind.bits, or128, kc, List.map_append, List.map_cons, List.map_nil, List.length_append, List.length_cons, List.length_nil, List.drop_drop]
        simp
        omega
      rw [e1] at hor3
      exact hor3
  ·
    have hlt : y < 128 := by have := of_decide_eq_false hc7; omega
    obtain ⟨f', rfl⟩ : ∃ f', f = f' + 1 := ⟨f - 1, by omega⟩
    have huv2 : uv x = p ++ [UInt8.ofNat y] := by rw [huv, uvF, if_pos hlt]
    refine WC.exit ?_
    refine WX.thenE ?_
    refine WX.thenE ?_
    refine WX.blockHit ?_
    refine WX.thenC ?_
    refine WC.seq ?_
    refine WC.region ?_
    refine WL.step (ok_move rfl) rfl ?_
    refine WL.step (ok_move rfl) rfl ?_
    refine WL.step (ok_move rfl) rfl ?_
    refine WL.step (ok_convM rfl rfl Try.underlying5 rfl) rfl ?_
    refine WL.step (ok_indexS p.length rfl rfl rfl (by omega) Try.underlying30 sz5) rfl ?_
    refine WL.store rfl rfl sz5 (hO) (by simp [Value.cells]) (by simp [Value.cells, hc]; omega) (by simp [Value.cells, Value.oneCell']) ?_
    intro wr6 hor6 hkr6 hsr6
    refine WL.nil ?_
    refine WX.thenC ?_
    refine WC.seq ?_
    refine WC.region ?_
    refine WL.step (ok_move rfl) rfl ?_
    refine WL.step (ok_add ((p.length + 1 : Nat) : Int) rfl rfl (by omega) (by omega) (by omega)) rfl ?_
    refine WL.step (ok_assign rfl) rfl ?_
    refine WL.nil ?_
    refine WX.thenC ?_
    refine WC.ret ?_
    have e1 : splice (kc p ++ c.drop p.length) (0 + p.length * 1) (Value.int .u8 ((y % 2 ^ IntKind.u8.bits : Nat))).cells.toList = kc (uv x) ++ c.drop (uv x).length := by
      rw [splice_mid _ _ _ _ (by simp), huv2]
      simp only [Value.cells, IntKind.bits, kc, List.map_append, List.map_cons, List.map_nil, List.length_append, List.length_cons, List.length_nil, List.drop_drop]
      simp
    rw [e1] at hor6
    exact WX.ret1 rfl rfl ⟨_, rfl, by rw [huv2]; simp, hor6, hK.trans hkr6, by rw [hsr6, hsz]⟩
theorem termOf (k : List UInt8) (n : ByteArray) (vl : List UInt8) (a : Option Addr) (cap : Nat) (hk : k.length = 20) (hn : n.size ≤ 1048576) (hv : vl.length ≤ 1048576) (w : World) (hB : BytesAt w a vl) :
    CallsV Try.prog 48 #[.agg (kc k ++ [Value.string n, .slice a vl.length cap]).toArray] w fun v w' => v = .int .u64 (term n.data.toList vl : Nat) ∧ Ext w w' := by
  refine calls_intro (args := [_]) Try.func48 rfl Try.ntmps48 rfl ?_
  refine WC.seq ?_
  refine WC.region ?_
  refine WL.box (c := kc k ++ [Value.string n, .slice a vl.length cap]) rfl rfl rfl ?_
  intro b1 w1 hb1 ho1 hk1 hs1
  refine WL.step (ok_assign rfl) rfl ?_
  refine WL.nil ?_
  refine WX.thenC ?_
  refine WC.seq ?_
  refine WC.region ?_
  refine WL.call (ok_callF rfl isfn54) rfl (new64a _) ?_
  rintro v w5 ⟨hb, rfl, hbe, hh5, hE5⟩
  refine WL.step (ok_assign rfl) rfl ?_
  refine WL.nil ?_
  refine WX.thenC ?_
  refine WC.seq ?_
  refine WC.region ?_
  refine WL.alloc zero106 rfl ?_
  intro b4 w4 hb4 ho4 hk4 hs4
  have h1a : Own w4 b1 35 (kc k ++ [Value.string n, .slice a vl.length cap]) := (ho1.ext hE5).ext hk4
  have hha := hh5.ext hk4
  have hE4 : Ext w w4 := (hk1.trans hE5).trans hk4
  have z1 := hk1.size
  have z5 := hE5.size
  have z4 := hk4.size
  have hb5 := hh5.lt
  have hname : (kc k ++ [Value.string n, .slice a vl.length cap])[20]? = some (.string n) := by rw [List.getElem?_append_right (by simp [hk]), kc_length, hk]; rfl
  have hval : (kc k ++ [Value.string n, .slice a vl.length cap])[21]? = some (.slice a vl.length cap) := by rw [List.getElem?_append_right (by simp [hk]), kc_length, hk]; rfl
  refine WL.nil ?_
  refine WX.thenC ?_
  refine WC.seq ?_
  refine WC.draw (Kp (· = b4) w4) [11] 7 [(0, true), (1, true), (2, true), (3, true), (4, true), (5, true), (8, true), (9, true), (10, true), (6, false), (7, true), (11, false)] mixed (by kernel_rfl) ?_
  have hS : Kp (· = b4) w4 w4.drew := Kp.drew _ _
  refine WO.quiet rfl (fun _ _ => ok_move rfl) hS rfl ?_
  refine WO.quiet rfl (fun _ _ => ok_sliceA 0 10 rfl Try.underlying106 sz5 rfl rfl (by omega) (by omega) (by omega)) hS rfl ?_
  refine WO.quiet rfl (fun _ _ => ok_field rfl fld35_1) hS rfl ?_
  refine WO.quiet rfl (fun _ hw => ok_load rfl one9 (Kp.cell hw ((show w4.cell? ⟨b1, 0 + 20, none⟩ = some (.string n) by rw [h1a.cell]; exact hname)) (by omega))) hS rfl ?_
  refine WO.quiet rfl (fun _ _ => ok_lenString rfl Try.underlying9) hS rfl ?_
  refine WO.quiet rfl (fun _ _ => ok_convN rfl rfl Try.underlying52 rfl (by simp only [IntKind.bits]; omega)) hS rfl ?_
  refine WO.quiet rfl (fun _ _ => ok_makeFunc rfl rfl) hS rfl ?_
  refine WO.quiet rfl (fun _ _ => ok_nilCheckM rfl mthWrite) hS rfl ?_
  refine WO.quiet rfl (fun _ _ => ok_move rfl) hS rfl ?_
  refine WO.loudCall rfl (ok_callF rfl isfn55) rfl (putUvarint b4 n.size (by omega) 106 _ rfl _ ho4.drew) ?_
  rintro v w12 ⟨rfl, hO12, hK12, hs12⟩
  refine ⟨(fun _ => hS.trans hK12), ?_⟩
  have hS := hS.trans hK12
  have hul : (uv n.size).length ≤ 10 := uvF_length 10 _
  refine WO.quiet rfl (fun _ _ => ok_sliceA 0 (uv n.size).length rfl Try.underlying106 sz5 rfl rfl (by omega) (by omega) (by omega)) hS rfl ?_
  refine WO.loudCall rfl (ok_invoke rfl rfl mthWrite isfn95) rfl (writeW hb 14695981039346656037 (by decide) (uv n.size) (by omega) _ _ _ (hK12.own hha.drew (by omega)) (BytesAt.of (by simpa using hO12.rd0.append_left))) ?_
  rintro v w17 ⟨hH17, hK17, hs17⟩
  refine ⟨(inL rfl), ?_⟩
  have h1b : Own w17 b1 35 (kc k ++ [Value.string n, .slice a vl.length cap]) := hK17.own (hK12.own h1a.drew (by omega)) (by omega)
  have hE17 : Ext w w17 := ((hE4.trans (Kp.drew _ _)).over hK12 (fun i hi e => by omega)).over hK17 (fun i hi e => by omega)
  simp only [World.size_drew] at hs12
  refine WO.nil ?_
  refine WX.thenC ?_
  refine WC.seq ?_
  refine WC.region ?_
  refine WL.step (ok_move rfl) rfl ?_
  refine WL.step (ok_field rfl fld35_1) rfl ?_
  refine WL.step (ok_load rfl one9 ((show w17.cell? ⟨b1, 0 + 20, none⟩ = some (.string n) by rw [h1b.cell]; exact hname))) rfl ?_
  refine WL.s2b rfl Try.underlying9 Try.underlying30 Try.underlying5 rfl ?_
  intro b21 w21 cap21 hb21 hr21 hk21
  refine WL.call (ok_invoke rfl rfl mthWrite isfn95) rfl (writeW hb _ (fnvL_lt _ _ (by decide)) n.data.toList (by show n.data.toList.length ≤ _; simp; have : n.data.size = n.size := rfl; omega) _ _ _ (hH17.ext hk21) (BytesAt.of hr21)) ?_
  rintro v w22 ⟨hH22, hK22, hs22⟩
  have h1c : Own w22 b1 35 (kc k ++ [Value.string n, .slice a vl.length cap]) := hK22.own (h1b.ext hk21) (by omega)
  have hE22 : Ext w w22 := (hE17.trans hk21).over hK22 (fun i hi e => by omega)
  refine WL.nil ?_
  refine WX.thenC ?_
  refine WC.seq ?_
  refine WC.region ?_
  refine WL.step (ok_move rfl) rfl ?_
  refine WL.step (ok_field rfl fld35_2) rfl ?_
  refine WL.step (ok_load rfl one30 ((show w22.cell? ⟨b1, 0 + 21, none⟩ = some (.slice a vl.length cap) by rw [h1c.cell]; exact hval))) rfl ?_
  refine WL.call (ok_invoke rfl rfl mthWrite isfn95) rfl (writeW hb _ (fnvL_lt _ _ (fnvL_lt _ _ (by decide))) vl (by omega) a cap _ hH22 (hB.ext hE22)) ?_
  rintro v w26 ⟨hH26, hK26, hs26⟩
  refine WL.nil ?_
  refine WX.thenC ?_
  refine WC.seq ?_
  refine WC.region ?_
  refine WL.step (ok_move rfl) rfl ?_
  refine WL.call (ok_invoke rfl rfl mthSum64 isfn94) rfl (sum64 hb _ _ hH26) ?_
  rintro v w28 ⟨rfl, rfl⟩
  refine WL.step (ok_assign rfl) rfl ?_
  refine WL.nil ?_
  refine WX.thenC ?_
  refine WC.ret ?_
  have hnl : n.data.toList.length = n.size := by simp
  exact WX.ret1 rfl rfl ⟨_, rfl, by unfold term; rw [hnl], hE22.over hK26 (fun i hi e => by omega)⟩

end Go.Proofs.Try
