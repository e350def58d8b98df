/- Walks: the law's own digest term; the store's shelf. -/
import Derived.Test.Qxb6605723aF3
set_option linter.unusedVariables false
set_option linter.unusedSimpArgs false
set_option maxRecDepth 100000
namespace Go.Sx
open Go.Pl
theorem ok_indexStr {P : Program} {s : Store} {ty : TypeId} {w : World} {x y : Operand} {t : TypeId} {n : ByteArray} {j : Nat} (hx : ev s x = some (.string n)) (hy : ev s y = some (.int .i64 (j : Nat))) (hu : P.underlying t = some .string) (hj : j < n.size) :
    OpOk P s (.index t x y) ty w (.int .u8 (at8 n.data.toList j : Nat)) w := by
  intro ρ hρ o ho _
  have h1 : n[j]? = some n[j] := by simp [hj]
  have h2 : at8 n.data.toList j = n[j].toNat := by
    have hl : j < n.data.toList.length := by simpa using hj
    unfold at8
    have : n.data.toList[j]? = some n.data.toList[j] := List.getElem?_eq_getElem hl
    simp only [List.getD, this, Option.getD_some]
    rfl
  simp [execOp, ho, hρ _ _ hx, hρ _ _ hy, Instr.index, asIntOf, run_underlying hu, Result.andThen, h1, h2]
theorem fnvL_snoc (h : Nat) (p : List UInt8) (b : UInt8) : fnvL h (p ++ [b]) = fnvStep (fnvL h p) b.toNat := by rw [fnvL_append]; unfold fnvL; rw [List.foldl_cons, List.foldl_nil]
theorem fnvL_nil (h : Nat) : fnvL h [] = h := by unfold fnvL; rw [List.foldl_nil]
end Go.Sx
namespace Go.Proofs.Try
open Go.Sx Go.Pl

set_option maxHeartbeats 1000000 in
theorem zzTermW (n : ByteArray) (vl : List UInt8) (a : Option Addr) (cap : Nat) (hn : n.size ≤ 1048576) (hv : vl.length ≤ 1048576) (w : World) (hB : BytesAt w a vl) :
    CallsV Try.prog 26 #[.string n, .slice a vl.length cap] w fun v w' => v = .int .u64 (term n.data.toList vl : Nat) ∧ w' = w := by
  have hnl : n.data.toList.length = n.size := by simp
  obtain ⟨H, hH⟩ : ∃ H : Nat, H = 14695981039346656037 := ⟨_, rfl⟩
  have hHl : H < 2 ^ 64 := by rw [hH]; decide
  refine calls_intro (args := [_, _]) Try.func26 rfl Try.ntmps26 rfl ?_
  refine WC.seq ?_
  refine WC.region ?_
  refine WL.step (ok_assign rfl) rfl ?_
  refine WL.nil ?_
  refine WX.thenC ?_
  refine WC.seq ?_
  refine WC.region ?_
  refine WL.step (ok_assign rfl) rfl ?_
  refine WL.nil ?_
  refine WX.thenC ?_
  refine WC.seq ?_
  refine WC.region ?_
  refine WL.step (ok_move rfl) rfl ?_
  refine WL.step (ok_lenString rfl Try.underlying9) rfl ?_
  refine WL.step (ok_convN rfl rfl Try.underlying52 rfl (by simp only [IntKind.bits]; omega)) rfl ?_
  refine WL.step (ok_assign rfl) rfl ?_
  refine WL.nil ?_
  refine WX.thenC ?_
  refine WC.seq ?_
  refine WC.block ?_
  refine WC.loop (fun z : Nat × Nat × List UInt8 => [(0, .string n), (1, .slice a vl.length cap), (5, .int .u64 (fnvL H z.2.2 : Nat)), (6, .int .u64 (z.1 : Nat))])
    (fun z w' => z.1 < 128 ^ z.2.1 ∧ 0 < z.2.1 ∧ uv n.size = z.2.2 ++ uvF z.2.1 z.1 ∧ w' = w) (fun z => z.1) (n.size, 10, []) ⟨rfl, rfl, by rw [fnvL_nil, hH]; rfl, rfl, trivial⟩ ?_ ?_
  · exact ⟨(by show n.size < 128 ^ 10; exact Nat.lt_of_le_of_lt hn (by decide)), (by show 0 < 10; decide), rfl, rfl⟩
  rintro ⟨y, f, p⟩ w1 ⟨hy, hf0, huv, hw1⟩
  dsimp only at hy hf0 huv
  have hw1 := hw1.symm
  subst hw1
  dsimp only
  have hf := fnvL_lt p H hHl
  refine WC.seq ?_
  refine WC.seq ?_
  refine WC.region ?_
  refine WL.step (ok_move rfl) rfl ?_
  refine WL.step (ok_geq rfl rfl) rfl ?_
  refine WL.nil ?_
  refine WX.thenC ?_
  refine WC.cond rfl (fun hc13 => ?_) (fun hc13 => ?_)
  ·
    have hge : 128 ≤ y := by have := of_decide_eq_true hc13; omega
    refine WC.skip ?_
    refine WX.thenC ?_
    refine WC.block ?_
    refine WC.seq ?_
    refine WC.region ?_
    refine WL.step (ok_move rfl) rfl ?_
    refine WL.step (ok_move rfl) rfl ?_
    refine WL.step (ok_convM rfl rfl Try.underlying5 rfl) rfl ?_
    refine WL.step (ok_orL (b := 128) rfl rfl rfl (Nat.mod_lt _ (by decide)) (by decide)) rfl ?_
    refine WL.step (ok_convN rfl rfl Try.underlying52 rfl (by have := or128 y; simp only [IntKind.bits] at *; omega)) rfl ?_
    refine WL.step (ok_xorN rfl rfl rfl (by simp only [IntKind.bits]; exact hf) (by have := or128 y; simp only [IntKind.bits] at *; omega)) rfl ?_
    refine WL.step (ok_assign rfl) rfl ?_
    refine WL.nil ?_
    refine WX.thenC ?_
    refine WC.seq ?_
    refine WC.region ?_
    refine WL.step (ok_move rfl) rfl ?_
    refine WL.step (ok_mulN (b := 1099511628211) rfl rfl rfl rfl) rfl ?_
    refine WL.step (ok_assign rfl) rfl ?_
    refine WL.nil ?_
    refine WX.thenC ?_
    refine WC.region ?_
    refine WL.step (ok_move rfl) rfl ?_
    refine WL.step (ok_shrN 7 rfl rfl rfl (by simp [IntKind.bits])) rfl ?_
    refine WL.step (ok_assign rfl) rfl ?_
    refine WL.nil ?_
    refine WX.blockN ?_
    obtain ⟨f', rfl, hf1, hy'⟩ := pow128 f y hge hy
    refine WX.again (y / 128, f', p ++ [UInt8.ofNat (y % 128 + 128)]) ⟨rfl, rfl, ?_, rfl, trivial⟩ ⟨hy', hf1, ?_, rfl⟩ (by show y / 128 < y; omega)
    · rw [fnvL_snoc]
      have hb : (UInt8.ofNat (y % 128 + 128)).toNat = y % 128 + 128 := by rw [UInt8.toNat_ofNat_of_lt' (by have : UInt8.size = 256 := rfl; omega)]
      rw [hb, ← or128, ← fnvStep_eq]
      rfl
    · rw [huv, uvF, if_neg (by omega)]; simp
  ·
    have hlt : y < 128 := by have := of_decide_eq_false hc13; omega
    obtain ⟨f', rfl⟩ : ∃ f', f = f' + 1 := ⟨f - 1, by omega⟩
    have huv2 : uv n.size = p ++ [UInt8.ofNat y] := by rw [huv, uvF, if_pos hlt]
    refine WC.exit ?_
    refine WX.thenE ?_
    refine WX.thenE ?_
    refine WX.blockHit ?_
    refine WX.thenC ?_
    refine WC.seq ?_
    refine WC.region ?_
    refine WL.step (ok_move rfl) rfl ?_
    refine WL.step (ok_move rfl) rfl ?_
    refine WL.step (ok_convM rfl rfl Try.underlying5 rfl) rfl ?_
    refine WL.step (ok_convN rfl rfl Try.underlying52 rfl (by simp only [IntKind.bits] at *; omega)) rfl ?_
    refine WL.step (ok_xorN rfl rfl rfl (by simp only [IntKind.bits]; exact hf) (by simp only [IntKind.bits] at *; omega)) rfl ?_
    refine WL.step (ok_assign rfl) rfl ?_
    refine WL.nil ?_
    refine WX.thenC ?_
    refine WC.seq ?_
    refine WC.region ?_
    refine WL.step (ok_move rfl) rfl ?_
    refine WL.step (ok_mulN (b := 1099511628211) rfl rfl rfl rfl) rfl ?_
    refine WL.step (ok_assign rfl) rfl ?_
    refine WL.nil ?_
    refine WX.thenC ?_
    refine WC.seq ?_
    refine WC.seq ?_
    refine WC.region ?_
    refine WL.step (ok_assign rfl) rfl ?_
    refine WL.nil ?_
    refine WX.thenC ?_
    refine WC.block ?_
    refine WC.loop (fun k : Nat => [(0, .string n), (1, .slice a vl.length cap), (5, .int .u64 (fnvL (fnvL H (uv n.size)) (n.data.toList.take k) : Nat)), (7, .int .i64 (k : Nat))])
      (fun k w' => k ≤ n.size ∧ w' = w) (fun k => n.size - k) 0 ⟨rfl, rfl, (by rw [List.take_zero, fnvL_nil, huv2, fnvL_snoc, UInt8.toNat_ofNat_of_lt' (by have : UInt8.size = 256 := rfl; omega), ← fnvStep_eq, show y % 2 ^ IntKind.u8.bits = y from Nat.mod_eq_of_lt (by simp only [IntKind.bits]; omega)]; rfl), rfl, trivial⟩ ?_ ?_
    · exact ⟨by omega, rfl⟩
    rintro k w1 ⟨hkn, hw1⟩
    have hw1 := hw1.symm
    subst hw1
    have hf := fnvL_lt (n.data.toList.take k) _ (fnvL_lt (uv n.size) H hHl)
    have h8 := at8_lt n.data.toList k
    refine WC.seq ?_
    refine WC.seq ?_
    refine WC.region ?_
    refine WL.step (ok_move rfl) rfl ?_
    refine WL.step (ok_move rfl) rfl ?_
    refine WL.step (ok_lenString rfl Try.underlying9) rfl ?_
    refine WL.step (ok_lss rfl rfl) rfl ?_
    refine WL.nil ?_
    refine WX.thenC ?_
    refine WC.cond rfl (fun hc34 => ?_) (fun hc34 => ?_)
    ·
      have hlt : k < n.size := by have := of_decide_eq_true hc34; omega
      refine WC.skip ?_
      refine WX.thenC ?_
      refine WC.seq ?_
      refine WC.block ?_
      refine WC.seq ?_
      refine WC.region ?_
      refine WL.step (ok_move rfl) rfl ?_
      refine WL.step (ok_move rfl) rfl ?_
      refine WL.step (ok_move rfl) rfl ?_
      refine WL.step (ok_indexStr rfl rfl Try.underlying9 hlt) rfl ?_
      refine WL.step (ok_convN rfl rfl Try.underlying52 rfl (by simp only [IntKind.bits]; omega)) rfl ?_
      refine WL.step (ok_xorN rfl rfl rfl (by simp only [IntKind.bits]; exact hf) (by simp only [IntKind.bits]; omega)) rfl ?_
      refine WL.step (ok_assign rfl) rfl ?_
      refine WL.nil ?_
      refine WX.thenC ?_
      refine WC.region ?_
      refine WL.step (ok_move rfl) rfl ?_
      refine WL.step (ok_mulN (b := 1099511628211) rfl rfl rfl rfl) rfl ?_
      refine WL.step (ok_assign rfl) rfl ?_
      refine WL.nil ?_
      refine WX.blockN ?_
      refine WX.thenC ?_
      refine WC.region ?_
      refine WL.step (ok_move rfl) rfl ?_
      refine WL.step (ok_add ((k + 1 : Nat) : Int) rfl rfl (by omega) (by omega) (by omega)) rfl ?_
      refine WL.step (ok_assign rfl) rfl ?_
      refine WL.nil ?_
      exact WX.again (k + 1) ⟨rfl, rfl, by rw [fnvL_take_succ _ _ k (by omega), ← fnvStep_eq]; rfl, rfl, trivial⟩ ⟨by omega, rfl⟩ (by omega)
    ·
      have hge2 : k = n.size := by have := of_decide_eq_false hc34; omega
      refine WC.exit ?_
      refine WX.thenE ?_
      refine WX.thenE ?_
      refine WX.blockHit ?_
      refine WX.thenC ?_
      refine WC.seq ?_
      refine WC.seq ?_
      refine WC.region ?_
      refine WL.step (ok_assign rfl) rfl ?_
      refine WL.nil ?_
      refine WX.thenC ?_
      refine WC.block ?_
      refine WC.loop (fun k : Nat => [(0, .string n), (1, .slice a vl.length cap), (5, .int .u64 (fnvL (fnvL (fnvL H (uv n.size)) n.data.toList) (vl.take k) : Nat)), (8, .int .i64 (k : Nat))])
        (fun k w' => k ≤ vl.length ∧ w' = w) (fun k => vl.length - k) 0 ⟨rfl, rfl, by rw [hge2, List.take_of_length_le (by omega), List.take_zero, fnvL_nil]; rfl, rfl, trivial⟩ ?_ ?_
      · exact ⟨by omega, rfl⟩
      rintro k w1 ⟨hkn, hw1⟩
      have hw1 := hw1.symm
      subst hw1
      have hf := fnvL_lt (vl.take k) _ (fnvL_lt n.data.toList _ (fnvL_lt (uv n.size) H hHl))
      have h8 := at8_lt vl k
      refine WC.seq ?_
      refine WC.seq ?_
      refine WC.region ?_
      refine WL.step (ok_move rfl) rfl ?_
      refine WL.step (ok_move rfl) rfl ?_
      refine WL.step (ok_lenSlice rfl Try.underlying30) rfl ?_
      refine WL.step (ok_lss rfl rfl) rfl ?_
      refine WL.nil ?_
      refine WX.thenC ?_
      refine WC.cond rfl (fun hc48 => ?_) (fun hc48 => ?_)
      ·
        have hlt : k < vl.length := by have := of_decide_eq_true hc48; omega
        obtain ⟨b, off, rfl, hr⟩ := hB.at hlt
        refine WC.skip ?_
        refine WX.thenC ?_
        refine WC.seq ?_
        refine WC.block ?_
        refine WC.seq ?_
        refine WC.region ?_
        refine WL.step (ok_move rfl) rfl ?_
        refine WL.step (ok_move rfl) rfl ?_
        refine WL.step (ok_move rfl) rfl ?_
        refine WL.step (ok_indexS _ rfl rfl rfl (by omega) Try.underlying30 sz5) rfl ?_
        refine WL.step (ok_load rfl one5 (rd_byte hr k hlt)) rfl ?_
        refine WL.step (ok_convN rfl rfl Try.underlying52 rfl (by simp only [IntKind.bits]; omega)) rfl ?_
        refine WL.step (ok_xorN rfl rfl rfl (by simp only [IntKind.bits]; exact hf) (by simp only [IntKind.bits]; omega)) rfl ?_
        refine WL.step (ok_assign rfl) rfl ?_
        refine WL.nil ?_
        refine WX.thenC ?_
        refine WC.region ?_
        refine WL.step (ok_move rfl) rfl ?_
        refine WL.step (ok_mulN (b := 1099511628211) rfl rfl rfl rfl) rfl ?_
        refine WL.step (ok_assign rfl) rfl ?_
        refine WL.nil ?_
        refine WX.blockN ?_
        refine WX.thenC ?_
        refine WC.region ?_
        refine WL.step (ok_move rfl) rfl ?_
        refine WL.step (ok_add ((k + 1 : Nat) : Int) rfl rfl (by omega) (by omega) (by omega)) rfl ?_
        refine WL.step (ok_assign rfl) rfl ?_
        refine WL.nil ?_
        exact WX.again (k + 1) ⟨rfl, rfl, by rw [fnvL_take_succ _ _ k hlt, ← fnvStep_eq]; rfl, rfl, trivial⟩ ⟨by omega, rfl⟩ (by omega)
      ·
        have hge3 : k = vl.length := by have := of_decide_eq_false hc48; omega
        refine WC.exit ?_
        refine WX.thenE ?_
        refine WX.thenE ?_
        refine WX.blockHit ?_
        refine WX.thenC ?_
        refine WC.seq ?_
        refine WC.region ?_
        refine WL.step (ok_move rfl) rfl ?_
        refine WL.step (ok_assign rfl) rfl ?_
        refine WL.nil ?_
        refine WX.thenC ?_
        refine WC.ret ?_
        exact WX.ret1 rfl rfl ⟨_, rfl, by rw [hge3, List.take_length]; unfold term; rw [hnl, hH], rfl⟩
theorem storeShelfX (stb : Nat) (copy : Bool) (w : World) :
    CallsV Try.prog 22 #[.pointer (some ⟨stb, 0, none⟩), .bool copy] w fun v w' => v = .pointer (some ⟨stb, copy.toNat, none⟩) ∧ w' = w := by
  refine calls_intro (args := [_, _]) Try.func22 rfl Try.ntmps22 rfl ?_
  refine WC.seq ?_
  refine WC.region ?_
  refine WL.step (ok_assign rfl) rfl ?_
  refine WL.nil ?_
  refine WX.thenC ?_
  refine WC.seq ?_
  refine WC.region ?_
  refine WL.step (ok_move rfl) rfl ?_
  refine WL.step (ok_move rfl) rfl ?_
  refine WL.call (ok_callF rfl isfn46) rfl (storeShelf stb copy _) ?_
  rintro v w7 ⟨rfl, rfl⟩
  refine WL.step (ok_assign rfl) rfl ?_
  refine WL.nil ?_
  refine WX.thenC ?_
  refine WC.ret ?_
  exact WX.ret1 rfl rfl ⟨_, rfl, rfl, rfl⟩

end Go.Proofs.Try
