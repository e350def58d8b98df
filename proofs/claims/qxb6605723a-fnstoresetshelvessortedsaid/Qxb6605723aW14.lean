/- Walks: a row of sets: measured, cloned, looked through. -/
import Derived.Test.Qxb6605723aW13
set_option linter.unusedVariables false
set_option linter.unusedSimpArgs false
set_option maxRecDepth 100000
namespace Go.Sx
open Go.Pl
def OpR.cells (o : OpR) : List Value := kc o.key ++ [.string o.name, .slice o.va o.vl.length o.vcap, .bool o.copy]
def encO (l : List OpR) : List Value := l.flatMap OpR.cells
def OkO (l : List OpR) : Prop := ∀ o ∈ l, o.key.length = 20
structure OpsAt (w : World) (a : Option Addr) (l : List OpR) : Prop where
  row : l ≠ [] → ∃ b off, a = some ⟨b, off, none⟩ ∧ Rd w b off (encO l)
  val : ∀ o ∈ l, BytesAt w o.va o.vl
theorem OpR.len {l : List OpR} (h : OkO l) : ∀ o ∈ l, o.cells.length = 23 := fun o ho => by simp [OpR.cells, h o ho]
theorem encO_length {l : List OpR} (h : OkO l) : (encO l).length = l.length * 23 := flatMap_length _ _ l (OpR.len h)
theorem OpsAt.ext {w w' : World} {a : Option Addr} {l : List OpR} (h : OpsAt w a l) (k : Ext w w') : OpsAt w' a l :=
  ⟨fun hne => by obtain ⟨b, off, h1, h2⟩ := h.row hne; exact ⟨b, off, h1, h2.kp k (fun f => f)⟩, fun o ho => (h.val o ho).ext k⟩
theorem OpsAt.at {w : World} {a : Option Addr} {l : List OpR} (h : OpsAt w a l) {k : Nat} (hk : k < l.length) : ∃ b off, a = some ⟨b, off, none⟩ ∧ Rd w b off (encO l) :=
  h.row (fun e => by rw [e] at hk; simp at hk)
theorem ro_key {w : World} {b off : Nat} {l : List OpR} (h : Rd w b off (encO l)) (ho : OkO l) (k : Nat) (hk : k < l.length) : Rd w b (off + k * 23 + 0) (kc l[k].key) := (Rd.elem h (OpR.len ho) k hk).append_left
theorem ro_at {w : World} {b off : Nat} {l : List OpR} (h : Rd w b off (encO l)) (ho : OkO l) (k : Nat) (hk : k < l.length) (j : Nat) (v : Value) (hv : [Value.string l[k].name, .slice l[k].va l[k].vl.length l[k].vcap, .bool l[k].copy][j]? = some v) : w.cell? ⟨b, off + k * 23 + (20 + j), none⟩ = some v := by
  refine (Rd.elem h (OpR.len ho) k hk).cell (20 + j) v ?_
  have hl : (kc l[k].key).length = 20 := by simp [ho _ (List.getElem_mem hk)]
  simp only [OpR.cells]
  rw [List.getElem?_append_right (by omega), hl, Nat.add_sub_cancel_left]
  exact hv
theorem ro_name {w : World} {b off : Nat} {l : List OpR} (h : Rd w b off (encO l)) (ho : OkO l) (k : Nat) (hk : k < l.length) : w.cell? ⟨b, off + k * 23 + 20, none⟩ = some (.string l[k].name) := ro_at h ho k hk 0 _ rfl
theorem ro_val {w : World} {b off : Nat} {l : List OpR} (h : Rd w b off (encO l)) (ho : OkO l) (k : Nat) (hk : k < l.length) : w.cell? ⟨b, off + k * 23 + 21, none⟩ = some (.slice l[k].va l[k].vl.length l[k].vcap) := ro_at h ho k hk 1 _ rfl
theorem ro_copy {w : World} {b off : Nat} {l : List OpR} (h : Rd w b off (encO l)) (ho : OkO l) (k : Nat) (hk : k < l.length) : w.cell? ⟨b, off + k * 23 + 22, none⟩ = some (.bool l[k].copy) := ro_at h ho k hk 2 _ rfl
theorem opr_one (o : OpR) : ∀ u ∈ o.cells, u.oneCell' = true := one_append (kc_one _) (one_cons rfl (one_cons rfl (one_cons rfl one_nil)))
def SmallO (o : OpR) : Prop := o.name.size ≤ 1048576 ∧ o.vl.length ≤ 1048576
theorem take_succ_allO {P : OpR → Prop} {l : List OpR} {j : Nat} (h : ∀ y ∈ l.take j, P y) (hj : j < l.length) (hnj : P l[j]) : ∀ y ∈ l.take (j + 1), P y := by
  rw [List.take_add_one, List.getElem?_eq_getElem hj]
  intro y hy
  rcases List.mem_append.1 hy with h' | h'
  · exact h y h'
  · simp at h'; subst h'; exact hnj
def laterName (l : List OpR) (k : Nat) : Bool := match l[k]? with
  | none => false
  | some x => (l.drop (k + 1)).any fun y => decide (y.name.toList = x.name.toList)
/-- The same but for where the values lie. -/
def SameO (x y : OpR) : Prop := x.key = y.key ∧ x.name = y.name ∧ x.vl = y.vl ∧ x.copy = y.copy
end Go.Sx
namespace Go.Proofs.Try
open Go.Sx Go.Pl

theorem build32 {s : Store} {ty : TypeId} {w : World} {x y z u : Operand} {k : List UInt8} {n : ByteArray} {a : Option Addr} {len cap : Nat} {b : Bool} (hk : k.length = 20) (hx : ev s x = some (.agg (kc k).toArray)) (hy : ev s y = some (.string n)) (hz : ev s z = some (.slice a len cap)) (hu : ev s u = some (.bool b)) :
    OpOk Try.prog s (.build 32 #[(0, x), (1, y), (2, z), (3, u)]) ty w (.agg (kc k ++ [Value.string n, .slice a len cap, .bool b]).toArray) w := by
  refine ok_build (vs := [.agg (kc k).toArray, .string n, .slice a len cap, .bool b]) zero32 flds32 (by simp [evs, hx, hy, hz, hu]) ?_
  have t21 : (kc k).take 21 = kc k := List.take_of_length_le (by simp [hk])
  have t22 : (kc k).take 22 = kc k := List.take_of_length_le (by simp [hk])
  have d21 : (kc k).drop 21 = [] := List.drop_of_length_le (by simp [hk])
  have d22 : (kc k).drop 22 = [] := List.drop_of_length_le (by simp [hk])
  have d23 : (kc k).drop 23 = [] := List.drop_of_length_le (by simp [hk])
  simp [fillL, splice, Value.cells, hk, List.drop_append, List.take_append, t21, t22, d21, d22, d23]

theorem bytesSet (l : List OpR) (ho : OkO l) (a : Option Addr) (cap : Nat) (x2 : ByteArray) (w : World) (hI : OpsAt w a l) :
    CallsV Try.prog 9 #[.slice a l.length cap, .string x2] w fun v w' => (∃ z, v = .bool z ∧ (z = true → (∀ x ∈ l, SmallO x) ∧ x2.size ≤ 1048576)) ∧ w' = w := by
  refine calls_intro (args := [_, _]) Try.func9 rfl Try.ntmps9 rfl ?_
  refine WC.seq ?_
  refine WC.region ?_
  refine WL.step (ok_assign rfl) rfl ?_
  refine WL.nil ?_
  refine WX.thenC ?_
  refine WC.seq ?_
  refine WC.region ?_
  refine WL.step (ok_assign rfl) rfl ?_
  refine WL.nil ?_
  refine WX.thenC ?_
  refine WC.seq ?_
  refine WC.seq ?_
  refine WC.region ?_
  refine WL.step (ok_move rfl) rfl ?_
  refine WL.step (ok_lenSlice rfl Try.underlying22) rfl ?_
  refine WL.step (ok_gtr rfl rfl) rfl ?_
  refine WL.nil ?_
  refine WX.thenC ?_
  refine WC.cond rfl (fun hc9 => ?_) (fun hc9 => ?_)
  ·
    refine WC.seq ?_
    refine WC.region ?_
    refine WL.step (ok_assign rfl) rfl ?_
    refine WL.nil ?_
    refine WX.thenC ?_
    refine WC.ret ?_
    refine WX.thenR ?_
    exact WX.ret1 rfl rfl ⟨_, rfl, ⟨_, rfl, fun h => by cases h⟩, rfl⟩
  ·
    have hn : l.length ≤ 1048576 := by have := of_decide_eq_false hc9; omega
    refine WC.skip ?_
    refine WX.thenC ?_
    refine WC.seq ?_
    refine WC.region ?_
    refine WL.step (ok_move rfl) rfl ?_
    refine WL.step (ok_move rfl) rfl ?_
    refine WL.step (ok_lenSlice rfl Try.underlying22) rfl ?_
    refine WL.step (ok_addW rfl rfl) rfl ?_
    refine WL.step (ok_assign rfl) rfl ?_
    refine WL.nil ?_
    refine WX.thenC ?_
    refine WC.seq ?_
    refine WC.seq ?_
    refine WC.region ?_
    refine WL.step (ok_move rfl) rfl ?_
    refine WL.step (ok_gtr rfl rfl) rfl ?_
    refine WL.nil ?_
    refine WX.thenC ?_
    refine WC.cond rfl (fun hc15 => ?_) (fun hc15 => ?_)
    ·
      refine WC.seq ?_
      refine WC.region ?_
      refine WL.step (ok_assign rfl) rfl ?_
      refine WL.nil ?_
      refine WX.thenC ?_
      refine WC.ret ?_
      refine WX.thenR ?_
      exact WX.ret1 rfl rfl ⟨_, rfl, ⟨_, rfl, fun h => by cases h⟩, rfl⟩
    ·
      refine WC.skip ?_
      refine WX.thenC ?_
      refine WC.seq ?_
      refine WC.seq ?_
      refine WC.region ?_
      refine WL.step (ok_assign rfl) rfl ?_
      refine WL.nil ?_
      refine WX.thenC ?_
      refine WC.block ?_
      refine WC.loop (fun x : Nat × Int => [(0, .slice a l.length cap), (1, .string x2), (5, .int .i64 x.2), (6, .int .i64 (x.1 : Nat))])
        (fun x w' => x.1 ≤ l.length ∧ (∀ y ∈ l.take x.1, SmallO y) ∧ w' = w) (fun x => l.length - x.1) (0, _) (by repeat (first | exact trivial | refine ⟨rfl, ?_⟩)) ?_ ?_
      · exact ⟨by simp, by simp, rfl⟩
      rintro ⟨j, z⟩ w1 ⟨hjn, hsm, hE0⟩
      subst hE0
      simp only at hjn hsm
      refine WC.seq ?_
      refine WC.seq ?_
      refine WC.region ?_
      refine WL.step (ok_move rfl) rfl ?_
      refine WL.step (ok_move rfl) rfl ?_
      refine WL.step (ok_lenSlice rfl Try.underlying22) rfl ?_
      refine WL.step (ok_lss rfl rfl) rfl ?_
      refine WL.nil ?_
      refine WX.thenC ?_
      refine WC.cond rfl (fun hc19 => ?_) (fun hc19 => ?_)
      ·
        have hlt : j < l.length := by have := of_decide_eq_true hc19; omega
        obtain ⟨b, off, rfl, hr⟩ := hI.at hlt
        refine WC.skip ?_
        refine WX.thenC ?_
        refine WC.seq ?_
        refine WC.block ?_
        refine WC.seq ?_
        refine WC.condF rfl ?_
        refine WC.skip ?_
        refine WX.thenC ?_
        refine WC.seq ?_
        refine WC.region ?_
        refine WL.step (ok_move rfl) rfl ?_
        refine WL.step (ok_addW rfl rfl) rfl ?_
        refine WL.step (ok_assign rfl) rfl ?_
        refine WL.nil ?_
        refine WX.thenC ?_
        refine WC.seq ?_
        refine WC.seq ?_
        refine WC.region ?_
        refine WL.step (ok_move rfl) rfl ?_
        refine WL.step (ok_gtr rfl rfl) rfl ?_
        refine WL.nil ?_
        refine WX.thenC ?_
        refine WC.cond rfl (fun hc25 => ?_) (fun hc25 => ?_)
        ·
          refine WC.seq ?_
          refine WC.region ?_
          refine WL.step (ok_assign rfl) rfl ?_
          refine WL.nil ?_
          refine WX.thenC ?_
          refine WC.ret ?_
          refine WX.thenR ?_
          refine WX.blockR ?_
          refine WX.thenR ?_
          refine WX.thenR ?_
          refine WX.blockR ?_
          refine WX.thenR ?_
          exact WX.ret1 rfl rfl ⟨_, rfl, ⟨_, rfl, fun h => by cases h⟩, rfl⟩
        ·
          refine WC.skip ?_
          refine WX.thenC ?_
          refine WC.seq ?_
          refine WC.seq ?_
          refine WC.region ?_
          refine WL.step (ok_move rfl) rfl ?_
          refine WL.step (ok_move rfl) rfl ?_
          refine WL.step (ok_indexS _ rfl rfl rfl (by omega) Try.underlying22 sz32) rfl ?_
          refine WL.step (ok_field rfl fld32_1) rfl ?_
          refine WL.step (ok_load rfl one9 (ro_name hr ho j hlt)) rfl ?_
          refine WL.step (ok_lenString rfl Try.underlying9) rfl ?_
          refine WL.step (ok_gtr rfl rfl) rfl ?_
          refine WL.nil ?_
          refine WX.thenC ?_
          refine WC.cond rfl (fun hc32 => ?_) (fun hc32 => ?_)
          ·
            refine WC.seq ?_
            refine WC.region ?_
            refine WL.step (ok_assign rfl) rfl ?_
            refine WL.nil ?_
            refine WX.thenC ?_
            refine WC.ret ?_
            refine WX.thenR ?_
            refine WX.blockR ?_
            refine WX.thenR ?_
            refine WX.thenR ?_
            refine WX.blockR ?_
            refine WX.thenR ?_
            exact WX.ret1 rfl rfl ⟨_, rfl, ⟨_, rfl, fun h => by cases h⟩, rfl⟩
          ·
            have hnj : l[j].name.size ≤ 1048576 := by have := of_decide_eq_false hc32; omega
            refine WC.skip ?_
            refine WX.thenC ?_
            refine WC.seq ?_
            refine WC.region ?_
            refine WL.step (ok_move rfl) rfl ?_
            refine WL.step (ok_move rfl) rfl ?_
            refine WL.step (ok_move rfl) rfl ?_
            refine WL.step (ok_indexS _ rfl rfl rfl (by omega) Try.underlying22 sz32) rfl ?_
            refine WL.step (ok_field rfl fld32_1) rfl ?_
            refine WL.step (ok_load rfl one9 (ro_name hr ho j hlt)) rfl ?_
            refine WL.step (ok_lenString rfl Try.underlying9) rfl ?_
            refine WL.step (ok_addW rfl rfl) rfl ?_
            refine WL.step (ok_assign rfl) rfl ?_
            refine WL.nil ?_
            refine WX.thenC ?_
            refine WC.seq ?_
            refine WC.seq ?_
            refine WC.region ?_
            refine WL.step (ok_move rfl) rfl ?_
            refine WL.step (ok_gtr rfl rfl) rfl ?_
            refine WL.nil ?_
            refine WX.thenC ?_
            refine WC.cond rfl (fun hc42 => ?_) (fun hc42 => ?_)
            ·
              refine WC.seq ?_
              refine WC.region ?_
              refine WL.step (ok_assign rfl) rfl ?_
              refine WL.nil ?_
              refine WX.thenC ?_
              refine WC.ret ?_
              refine WX.thenR ?_
              refine WX.blockR ?_
              refine WX.thenR ?_
              refine WX.thenR ?_
              refine WX.blockR ?_
              refine WX.thenR ?_
              exact WX.ret1 rfl rfl ⟨_, rfl, ⟨_, rfl, fun h => by cases h⟩, rfl⟩
            ·
              refine WC.skip ?_
              refine WX.thenC ?_
              refine WC.seq ?_
              refine WC.seq ?_
              refine WC.region ?_
              refine WL.step (ok_move rfl) rfl ?_
              refine WL.step (ok_move rfl) rfl ?_
              refine WL.step (ok_indexS _ rfl rfl rfl (by omega) Try.underlying22 sz32) rfl ?_
              refine WL.step (ok_field rfl fld32_2) rfl ?_
              refine WL.step (ok_load rfl one30 (ro_val hr ho j hlt)) rfl ?_
              refine WL.step (ok_lenSlice rfl Try.underlying30) rfl ?_
              refine WL.step (ok_gtr rfl rfl) rfl ?_
              refine WL.nil ?_
              refine WX.thenC ?_
              refine WC.cond rfl (fun hc49 => ?_) (fun hc49 => ?_)
              ·
                refine WC.seq ?_
                refine WC.region ?_
                refine WL.step (ok_assign rfl) rfl ?_
                refine WL.nil ?_
                refine WX.thenC ?_
                refine WC.ret ?_
                refine WX.thenR ?_
                refine WX.blockR ?_
                refine WX.thenR ?_
                refine WX.thenR ?_
                refine WX.blockR ?_
                refine WX.thenR ?_
                exact WX.ret1 rfl rfl ⟨_, rfl, ⟨_, rfl, fun h => by cases h⟩, rfl⟩
              ·
                have hvj : l[j].vl.length ≤ 1048576 := by have := of_decide_eq_false hc49; omega
                refine WC.skip ?_
                refine WX.thenC ?_
                refine WC.seq ?_
                refine WC.region ?_
                refine WL.step (ok_move rfl) rfl ?_
                refine WL.step (ok_move rfl) rfl ?_
                refine WL.step (ok_move rfl) rfl ?_
                refine WL.step (ok_indexS _ rfl rfl rfl (by omega) Try.underlying22 sz32) rfl ?_
                refine WL.step (ok_field rfl fld32_2) rfl ?_
                refine WL.step (ok_load rfl one30 (ro_val hr ho j hlt)) rfl ?_
                refine WL.step (ok_lenSlice rfl Try.underlying30) rfl ?_
                refine WL.step (ok_addW rfl rfl) rfl ?_
                refine WL.step (ok_assign rfl) rfl ?_
                refine WL.nil ?_
                refine WX.thenC ?_
                refine WC.seq ?_
                refine WC.region ?_
                refine WL.step (ok_move rfl) rfl ?_
                refine WL.step (ok_gtr rfl rfl) rfl ?_
                refine WL.nil ?_
                refine WX.thenC ?_
                refine WC.cond rfl (fun hc59 => ?_) (fun hc59 => ?_)
                ·
                  refine WC.seq ?_
                  refine WC.region ?_
                  refine WL.step (ok_assign rfl) rfl ?_
                  refine WL.nil ?_
                  refine WX.thenC ?_
                  refine WC.ret ?_
                  refine WX.blockR ?_
                  refine WX.thenR ?_
                  refine WX.thenR ?_
                  refine WX.blockR ?_
                  refine WX.thenR ?_
                  exact WX.ret1 rfl rfl ⟨_, rfl, ⟨_, rfl, fun h => by cases h⟩, rfl⟩
                ·
                  refine WC.skip ?_
                  refine WX.blockN ?_
                  refine WX.thenC ?_
                  refine WC.region ?_
                  refine WL.step (ok_move rfl) rfl ?_
                  refine WL.step (ok_add ((j + 1 : Nat) : Int) rfl rfl (by omega) (by omega) (by omega)) rfl ?_
                  refine WL.step (ok_assign rfl) rfl ?_
                  refine WL.nil ?_
                  exact WX.again (j + 1, _) (by repeat (first | exact trivial | refine ⟨rfl, ?_⟩)) ⟨by simp; omega, take_succ_allO hsm hlt ⟨hnj, hvj⟩, rfl⟩ (by simp; omega)
      ·
        have hge : j = l.length := by have := of_decide_eq_false hc19; omega
        have hal : ∀ x ∈ l, SmallO x := by rw [hge, List.take_length] at hsm; exact hsm
        refine WC.exit ?_
        refine WX.thenE ?_
        refine WX.thenE ?_
        refine WX.blockHit ?_
        refine WX.thenC ?_
        refine WC.seq ?_
        refine WC.seq ?_
        refine WC.region ?_
        refine WL.step (ok_move rfl) rfl ?_
        refine WL.step (ok_lenString rfl Try.underlying9) rfl ?_
        refine WL.step (ok_gtr rfl rfl) rfl ?_
        refine WL.nil ?_
        refine WX.thenC ?_
        refine WC.cond rfl (fun hc62 => ?_) (fun hc62 => ?_)
        ·
          refine WC.seq ?_
          refine WC.region ?_
          refine WL.step (ok_assign rfl) rfl ?_
          refine WL.nil ?_
          refine WX.thenC ?_
          refine WC.ret ?_
          refine WX.thenR ?_
          exact WX.ret1 rfl rfl ⟨_, rfl, ⟨_, rfl, fun h => by cases h⟩, rfl⟩
        ·
          have hx2 : x2.size ≤ 1048576 := by have := of_decide_eq_false hc62; omega
          refine WC.skip ?_
          refine WX.thenC ?_
          refine WC.seq ?_
          refine WC.region ?_
          refine WL.step (ok_move rfl) rfl ?_
          refine WL.step (ok_move rfl) rfl ?_
          refine WL.step (ok_lenString rfl Try.underlying9) rfl ?_
          refine WL.step (ok_addW rfl rfl) rfl ?_
          refine WL.step (ok_assign rfl) rfl ?_
          refine WL.nil ?_
          refine WX.thenC ?_
          refine WC.seq ?_
          refine WC.seq ?_
          refine WC.region ?_
          refine WL.step (ok_move rfl) rfl ?_
          refine WL.step (ok_gtr rfl rfl) rfl ?_
          refine WL.nil ?_
          refine WX.thenC ?_
          refine WC.cond rfl (fun hc68 => ?_) (fun hc68 => ?_)
          ·
            refine WC.seq ?_
            refine WC.region ?_
            refine WL.step (ok_assign rfl) rfl ?_
            refine WL.nil ?_
            refine WX.thenC ?_
            refine WC.ret ?_
            refine WX.thenR ?_
            exact WX.ret1 rfl rfl ⟨_, rfl, ⟨_, rfl, fun h => by cases h⟩, rfl⟩
          ·
            refine WC.skip ?_
            refine WX.thenC ?_
            refine WC.seq ?_
            refine WC.region ?_
            refine WL.step (ok_assign rfl) rfl ?_
            refine WL.nil ?_
            refine WX.thenC ?_
            refine WC.ret ?_
            exact WX.ret1 rfl rfl ⟨_, rfl, ⟨_, rfl, fun _ => ⟨hal, hx2⟩⟩, rfl⟩
theorem bytesSorted (l : List OpR) (ho : OkO l) (a : Option Addr) (cap : Nat) (w : World) (hI : OpsAt w a l) :
    CallsV Try.prog 19 #[.slice a l.length cap] w fun v w' => (∃ z, v = .bool z ∧ (z = true → (∀ x ∈ l, SmallO x))) ∧ w' = w := by
  refine calls_intro (args := [_]) Try.func19 rfl Try.ntmps19 rfl ?_
  refine WC.seq ?_
  refine WC.region ?_
  refine WL.step (ok_assign rfl) rfl ?_
  refine WL.nil ?_
  refine WX.thenC ?_
  refine WC.seq ?_
  refine WC.region ?_
  refine WL.step (ok_assign rfl) rfl ?_
  refine WL.nil ?_
  refine WX.thenC ?_
  refine WC.seq ?_
  refine WC.seq ?_
  refine WC.region ?_
  refine WL.step (ok_move rfl) rfl ?_
  refine WL.step (ok_lenSlice rfl Try.underlying22) rfl ?_
  refine WL.step (ok_gtr rfl rfl) rfl ?_
  refine WL.nil ?_
  refine WX.thenC ?_
  refine WC.cond rfl (fun hc7 => ?_) (fun hc7 => ?_)
  ·
    refine WC.seq ?_
    refine WC.region ?_
    refine WL.step (ok_assign rfl) rfl ?_
    refine WL.nil ?_
    refine WX.thenC ?_
    refine WC.ret ?_
    refine WX.thenR ?_
    exact WX.ret1 rfl rfl ⟨_, rfl, ⟨_, rfl, fun h => by cases h⟩, rfl⟩
  ·
    have hn : l.length ≤ 1048576 := by have := of_decide_eq_false hc7; omega
    refine WC.skip ?_
    refine WX.thenC ?_
    refine WC.seq ?_
    refine WC.region ?_
    refine WL.step (ok_move rfl) rfl ?_
    refine WL.step (ok_move rfl) rfl ?_
    refine WL.step (ok_lenSlice rfl Try.underlying22) rfl ?_
    refine WL.step (ok_addW rfl rfl) rfl ?_
    refine WL.step (ok_assign rfl) rfl ?_
    refine WL.nil ?_
    refine WX.thenC ?_
    refine WC.seq ?_
    refine WC.seq ?_
    refine WC.region ?_
    refine WL.step (ok_move rfl) rfl ?_
    refine WL.step (ok_gtr rfl rfl) rfl ?_
    refine WL.nil ?_
    refine WX.thenC ?_
    refine WC.cond rfl (fun hc13 => ?_) (fun hc13 => ?_)
    ·
      refine WC.seq ?_
      refine WC.region ?_
      refine WL.step (ok_assign rfl) rfl ?_
      refine WL.nil ?_
      refine WX.thenC ?_
      refine WC.ret ?_
      refine WX.thenR ?_
      exact WX.ret1 rfl rfl ⟨_, rfl, ⟨_, rfl, fun h => by cases h⟩, rfl⟩
    ·
      refine WC.skip ?_
      refine WX.thenC ?_
      refine WC.seq ?_
      refine WC.seq ?_
      refine WC.region ?_
      refine WL.step (ok_assign rfl) rfl ?_
      refine WL.nil ?_
      refine WX.thenC ?_
      refine WC.block ?_
      refine WC.loop (fun x : Nat × Int => [(0, .slice a l.length cap), (3, .int .i64 x.2), (4, .int .i64 (x.1 : Nat))])
        (fun x w' => x.1 ≤ l.length ∧ (∀ y ∈ l.take x.1, SmallO y) ∧ w' = w) (fun x => l.length - x.1) (0, _) (by repeat (first | exact trivial | refine ⟨rfl, ?_⟩)) ?_ ?_
      · exact ⟨by simp, by simp, rfl⟩
      rintro ⟨j, z⟩ w1 ⟨hjn, hsm, hE0⟩
      subst hE0
      simp only at hjn hsm
      refine WC.seq ?_
      refine WC.seq ?_
      refine WC.region ?_
      refine WL.step (ok_move rfl) rfl ?_
      refine WL.step (ok_move rfl) rfl ?_
      refine WL.step (ok_lenSlice rfl Try.underlying22) rfl ?_
      refine WL.step (ok_lss rfl rfl) rfl ?_
      refine WL.nil ?_
      refine WX.thenC ?_
      refine WC.cond rfl (fun hc17 => ?_) (fun hc17 => ?_)
      ·
        have hlt : j < l.length := by have := of_decide_eq_true hc17; omega
        obtain ⟨b, off, rfl, hr⟩ := hI.at hlt
        refine WC.skip ?_
        refine WX.thenC ?_
        refine WC.seq ?_
        refine WC.block ?_
        refine WC.seq ?_
        refine WC.condF rfl ?_
        refine WC.skip ?_
        refine WX.thenC ?_
        refine WC.seq ?_
        refine WC.region ?_
        refine WL.step (ok_move rfl) rfl ?_
        refine WL.step (ok_addW rfl rfl) rfl ?_
        refine WL.step (ok_assign rfl) rfl ?_
        refine WL.nil ?_
        refine WX.thenC ?_
        refine WC.seq ?_
        refine WC.seq ?_
        refine WC.region ?_
        refine WL.step (ok_move rfl) rfl ?_
        refine WL.step (ok_gtr rfl rfl) rfl ?_
        refine WL.nil ?_
        refine WX.thenC ?_
        refine WC.cond rfl (fun hc23 => ?_) (fun hc23 => ?_)
        ·
          refine WC.seq ?_
          refine WC.region ?_
          refine WL.step (ok_assign rfl) rfl ?_
          refine WL.nil ?_
          refine WX.thenC ?_
          refine WC.ret ?_
          refine WX.thenR ?_
          refine WX.blockR ?_
          refine WX.thenR ?_
          refine WX.thenR ?_
          refine WX.blockR ?_
          refine WX.thenR ?_
          exact WX.ret1 rfl rfl ⟨_, rfl, ⟨_, rfl, fun h => by cases h⟩, rfl⟩
        ·
          refine WC.skip ?_
          refine WX.thenC ?_
          refine WC.seq ?_
          refine WC.seq ?_
          refine WC.region ?_
          refine WL.step (ok_move rfl) rfl ?_
          refine WL.step (ok_move rfl) rfl ?_
          refine WL.step (ok_indexS _ rfl rfl rfl (by omega) Try.underlying22 sz32) rfl ?_
          refine WL.step (ok_field rfl fld32_1) rfl ?_
          refine WL.step (ok_load rfl one9 (ro_name hr ho j hlt)) rfl ?_
          refine WL.step (ok_lenString rfl Try.underlying9) rfl ?_
          refine WL.step (ok_gtr rfl rfl) rfl ?_
          refine WL.nil ?_
          refine WX.thenC ?_
          refine WC.cond rfl (fun hc30 => ?_) (fun hc30 => ?_)
          ·
            refine WC.seq ?_
            refine WC.region ?_
            refine WL.step (ok_assign rfl) rfl ?_
            refine WL.nil ?_
            refine WX.thenC ?_
            refine WC.ret ?_
            refine WX.thenR ?_
            refine WX.blockR ?_
            refine WX.thenR ?_
            refine WX.thenR ?_
            refine WX.blockR ?_
            refine WX.thenR ?_
            exact WX.ret1 rfl rfl ⟨_, rfl, ⟨_, rfl, fun h => by cases h⟩, rfl⟩
          ·
            have hnj : l[j].name.size ≤ 1048576 := by have := of_decide_eq_false hc30; omega
            refine WC.skip ?_
            refine WX.thenC ?_
            refine WC.seq ?_
            refine WC.region ?_
            refine WL.step (ok_move rfl) rfl ?_
            refine WL.step (ok_move rfl) rfl ?_
            refine WL.step (ok_move rfl) rfl ?_
            refine WL.step (ok_indexS _ rfl rfl rfl (by omega) Try.underlying22 sz32) rfl ?_
            refine WL.step (ok_field rfl fld32_1) rfl ?_
            refine WL.step (ok_load rfl one9 (ro_name hr ho j hlt)) rfl ?_
            refine WL.step (ok_lenString rfl Try.underlying9) rfl ?_
            refine WL.step (ok_addW rfl rfl) rfl ?_
            refine WL.step (ok_assign rfl) rfl ?_
            refine WL.nil ?_
            refine WX.thenC ?_
            refine WC.seq ?_
            refine WC.seq ?_
            refine WC.region ?_
            refine WL.step (ok_move rfl) rfl ?_
            refine WL.step (ok_gtr rfl rfl) rfl ?_
            refine WL.nil ?_
            refine WX.thenC ?_
            refine WC.cond rfl (fun hc40 => ?_) (fun hc40 => ?_)
            ·
              refine WC.seq ?_
              refine WC.region ?_
              refine WL.step (ok_assign rfl) rfl ?_
              refine WL.nil ?_
              refine WX.thenC ?_
              refine WC.ret ?_
              refine WX.thenR ?_
              refine WX.blockR ?_
              refine WX.thenR ?_
              refine WX.thenR ?_
              refine WX.blockR ?_
              refine WX.thenR ?_
              exact WX.ret1 rfl rfl ⟨_, rfl, ⟨_, rfl, fun h => by cases h⟩, rfl⟩
            ·
              refine WC.skip ?_
              refine WX.thenC ?_
              refine WC.seq ?_
              refine WC.seq ?_
              refine WC.region ?_
              refine WL.step (ok_move rfl) rfl ?_
              refine WL.step (ok_move rfl) rfl ?_
              refine WL.step (ok_indexS _ rfl rfl rfl (by omega) Try.underlying22 sz32) rfl ?_
              refine WL.step (ok_field rfl fld32_2) rfl ?_
              refine WL.step (ok_load rfl one30 (ro_val hr ho j hlt)) rfl ?_
              refine WL.step (ok_lenSlice rfl Try.underlying30) rfl ?_
              refine WL.step (ok_gtr rfl rfl) rfl ?_
              refine WL.nil ?_
              refine WX.thenC ?_
              refine WC.cond rfl (fun hc47 => ?_) (fun hc47 => ?_)
              ·
                refine WC.seq ?_
                refine WC.region ?_
                refine WL.step (ok_assign rfl) rfl ?_
                refine WL.nil ?_
                refine WX.thenC ?_
                refine WC.ret ?_
                refine WX.thenR ?_
                refine WX.blockR ?_
                refine WX.thenR ?_
                refine WX.thenR ?_
                refine WX.blockR ?_
                refine WX.thenR ?_
                exact WX.ret1 rfl rfl ⟨_, rfl, ⟨_, rfl, fun h => by cases h⟩, rfl⟩
              ·
                have hvj : l[j].vl.length ≤ 1048576 := by have := of_decide_eq_false hc47; omega
                refine WC.skip ?_
                refine WX.thenC ?_
                refine WC.seq ?_
                refine WC.region ?_
                refine WL.step (ok_move rfl) rfl ?_
                refine WL.step (ok_move rfl) rfl ?_
                refine WL.step (ok_move rfl) rfl ?_
                refine WL.step (ok_indexS _ rfl rfl rfl (by omega) Try.underlying22 sz32) rfl ?_
                refine WL.step (ok_field rfl fld32_2) rfl ?_
                refine WL.step (ok_load rfl one30 (ro_val hr ho j hlt)) rfl ?_
                refine WL.step (ok_lenSlice rfl Try.underlying30) rfl ?_
                refine WL.step (ok_addW rfl rfl) rfl ?_
                refine WL.step (ok_assign rfl) rfl ?_
                refine WL.nil ?_
                refine WX.thenC ?_
                refine WC.seq ?_
                refine WC.region ?_
                refine WL.step (ok_move rfl) rfl ?_
                refine WL.step (ok_gtr rfl rfl) rfl ?_
                refine WL.nil ?_
                refine WX.thenC ?_
                refine WC.cond rfl (fun hc57 => ?_) (fun hc57 => ?_)
                ·
                  refine WC.seq ?_
                  refine WC.region ?_
                  refine WL.step (ok_assign rfl) rfl ?_
                  refine WL.nil ?_
                  refine WX.thenC ?_
                  refine WC.ret ?_
                  refine WX.blockR ?_
                  refine WX.thenR ?_
                  refine WX.thenR ?_
                  refine WX.blockR ?_
                  refine WX.thenR ?_
                  exact WX.ret1 rfl rfl ⟨_, rfl, ⟨_, rfl, fun h => by cases h⟩, rfl⟩
                ·
                  refine WC.skip ?_
                  refine WX.blockN ?_
                  refine WX.thenC ?_
                  refine WC.region ?_
                  refine WL.step (ok_move rfl) rfl ?_
                  refine WL.step (ok_add ((j + 1 : Nat) : Int) rfl rfl (by omega) (by omega) (by omega)) rfl ?_
                  refine WL.step (ok_assign rfl) rfl ?_
                  refine WL.nil ?_
                  exact WX.again (j + 1, _) (by repeat (first | exact trivial | refine ⟨rfl, ?_⟩)) ⟨by simp; omega, take_succ_allO hsm hlt ⟨hnj, hvj⟩, rfl⟩ (by simp; omega)
      ·
        have hge : j = l.length := by have := of_decide_eq_false hc17; omega
        have hal : ∀ x ∈ l, SmallO x := by rw [hge, List.take_length] at hsm; exact hsm
        refine WC.exit ?_
        refine WX.thenE ?_
        refine WX.thenE ?_
        refine WX.blockHit ?_
        refine WX.thenC ?_
        refine WC.seq ?_
        refine WC.region ?_
        refine WL.step (ok_assign rfl) rfl ?_
        refine WL.nil ?_
        refine WX.thenC ?_
        refine WC.ret ?_
        exact WX.ret1 rfl rfl ⟨_, rfl, ⟨_, rfl, fun _ => hal⟩, rfl⟩
theorem setsBytes (l : List OpR) (ho : OkO l) (a : Option Addr) (cap : Nat) (hn : l.length ≤ 1048576) (w : World) (hI : OpsAt w a l) :
    CallsV Try.prog 10 #[.slice a l.length cap] w fun v w' => (∃ z, v = .int .i64 z) ∧ Ext w w' := by
  refine calls_intro (args := [_]) Try.func10 rfl Try.ntmps10 rfl ?_
  refine WC.seq ?_
  refine WC.region ?_
  refine WL.step (ok_assign rfl) rfl ?_
  refine WL.nil ?_
  refine WX.thenC ?_
  refine WC.seq ?_
  refine WC.region ?_
  refine WL.step (ok_move rfl) rfl ?_
  refine WL.step (ok_lenSlice rfl Try.underlying22) rfl ?_
  refine WL.step (ok_mulW rfl rfl) rfl ?_
  refine WL.step (ok_assign rfl) rfl ?_
  refine WL.nil ?_
  refine WX.thenC ?_
  refine WC.seq ?_
  refine WC.seq ?_
  refine WC.region ?_
  refine WL.step (ok_assign rfl) rfl ?_
  refine WL.nil ?_
  refine WX.thenC ?_
  refine WC.block ?_
  refine WC.loop (fun x : Nat × Int => [(0, .slice a l.length cap), (3, .int .i64 x.2), (4, .int .i64 (x.1 : Nat))])
    (fun x w' => x.1 ≤ l.length ∧ Ext w w') (fun x => l.length - x.1) (0, _) (by repeat (first | exact trivial | refine ⟨rfl, ?_⟩)) ?_ ?_
  · exact ⟨by simp, Kp.refl _ _⟩
  rintro ⟨j, z⟩ w1 ⟨hjn, hE⟩
  simp only at hjn
  refine WC.seq ?_
  refine WC.seq ?_
  refine WC.region ?_
  refine WL.step (ok_move rfl) rfl ?_
  refine WL.step (ok_move rfl) rfl ?_
  refine WL.step (ok_lenSlice rfl Try.underlying22) rfl ?_
  refine WL.step (ok_lss rfl rfl) rfl ?_
  refine WL.nil ?_
  refine WX.thenC ?_
  refine WC.cond rfl (fun hc11 => ?_) (fun hc11 => ?_)
  ·
    have hlt : j < l.length := by have := of_decide_eq_true hc11; omega
    obtain ⟨b, off, rfl, hr⟩ := (hI.ext hE).at hlt
    refine WC.skip ?_
    refine WX.thenC ?_
    refine WC.seq ?_
    refine WC.block ?_
    refine WC.drawE [] 8 [(0, true), (1, true), (2, true), (3, true), (4, true), (5, true), (6, true), (7, true), (8, true), (9, true), (10, true), (11, true), (12, true), (13, true), (14, true), (15, true)] mixed (by kernel_rfl) (fun hS => ?_)
    refine WO.quiet rfl (fun _ _ => ok_move rfl) hS rfl ?_
    refine WO.quiet rfl (fun _ _ => ok_move rfl) hS rfl ?_
    refine WO.quiet rfl (fun _ _ => ok_move rfl) hS rfl ?_
    refine WO.quiet rfl (fun _ _ => ok_indexS _ rfl rfl rfl (by omega) Try.underlying22 sz32) hS rfl ?_
    refine WO.quiet rfl (fun _ _ => ok_field rfl fld32_1) hS rfl ?_
    refine WO.quiet rfl (fun _ hw => ok_load rfl one9 (Kp.cell hw (ro_name hr ho j hlt) (fun f => f))) hS rfl ?_
    refine WO.quiet rfl (fun _ _ => ok_lenString rfl Try.underlying9) hS rfl ?_
    refine WO.quiet rfl (fun _ _ => ok_move rfl) hS rfl ?_
    refine WO.quiet rfl (fun _ _ => ok_move rfl) hS rfl ?_
    refine WO.quiet rfl (fun _ _ => ok_indexS _ rfl rfl rfl (by omega) Try.underlying22 sz32) hS rfl ?_
    refine WO.quiet rfl (fun _ _ => ok_field rfl fld32_2) hS rfl ?_
    refine WO.quiet rfl (fun _ hw => ok_load rfl one30 (Kp.cell hw (ro_val hr ho j hlt) (fun f => f))) hS rfl ?_
    refine WO.quiet rfl (fun _ _ => ok_lenSlice rfl Try.underlying30) hS rfl ?_
    refine WO.quiet rfl (fun _ _ => ok_addW rfl rfl) hS rfl ?_
    refine WO.quiet rfl (fun _ _ => ok_addW rfl rfl) hS rfl ?_
    refine WO.quiet rfl (fun _ _ => ok_assign rfl) hS rfl ?_
    refine WO.nil ?_
    refine WX.blockN ?_
    refine WX.thenC ?_
    refine WC.region ?_
    refine WL.step (ok_move rfl) rfl ?_
    refine WL.step (ok_add ((j + 1 : Nat) : Int) rfl rfl (by omega) (by omega) (by omega)) rfl ?_
    refine WL.step (ok_assign rfl) rfl ?_
    refine WL.nil ?_
    exact WX.again (j + 1, _) (by repeat (first | exact trivial | refine ⟨rfl, ?_⟩)) ⟨by simp; omega, hE.trans (Kp.drew _ _)⟩ (by simp; omega)
  ·
    refine WC.exit ?_
    refine WX.thenE ?_
    refine WX.thenE ?_
    refine WX.blockHit ?_
    refine WX.thenC ?_
    refine WC.seq ?_
    refine WC.region ?_
    refine WL.step (ok_move rfl) rfl ?_
    refine WL.step (ok_assign rfl) rfl ?_
    refine WL.nil ?_
    refine WX.thenC ?_
    refine WC.ret ?_
    exact WX.ret1 rfl rfl ⟨_, rfl, ⟨_, rfl⟩, hE⟩
theorem laterSameName (l : List OpR) (ho : OkO l) (a : Option Addr) (cap k : Nat) (hk : k < l.length) (hn : l.length ≤ 1048576) (w : World) (hI : OpsAt w a l) :
    CallsV Try.prog 14 #[.slice a l.length cap, .int .i64 (k : Nat)] w fun v w' => v = .bool (laterName l k) ∧ Ext w w' := by
  have hln : laterName l k = (l.drop (k + 1)).any fun y => decide (y.name.toList = l[k].name.toList) := by unfold laterName; rw [List.getElem?_eq_getElem hk]
  refine calls_intro (args := [_, _]) Try.func14 rfl Try.ntmps14 rfl ?_
  refine WC.seq ?_
  refine WC.region ?_
  refine WL.step (ok_assign rfl) rfl ?_
  refine WL.nil ?_
  refine WX.thenC ?_
  refine WC.seq ?_
  refine WC.seq ?_
  refine WC.region ?_
  refine WL.step (ok_move rfl) rfl ?_
  refine WL.step (ok_add ((k + 1 : Nat) : Int) rfl rfl (by omega) (by omega) (by omega)) rfl ?_
  refine WL.step (ok_assign rfl) rfl ?_
  refine WL.nil ?_
  refine WX.thenC ?_
  refine WC.block ?_
  refine WC.loop (fun j : Nat => [(0, .slice a l.length cap), (1, .int .i64 (k : Nat)), (5, .int .i64 (j : Nat))])
    (fun j w' => j ≤ l.length ∧ ((l.drop (k + 1)).any fun y => decide (y.name.toList = l[k].name.toList)) = ((l.drop j).any fun y => decide (y.name.toList = l[k].name.toList)) ∧ Ext w w') (fun j => l.length - j) (k + 1) (by repeat (first | exact trivial | refine ⟨rfl, ?_⟩)) ?_ ?_
  · exact ⟨by omega, rfl, Kp.refl _ _⟩
  rintro j w1 ⟨hjn, hany, hE⟩
  refine WC.seq ?_
  refine WC.seq ?_
  refine WC.region ?_
  refine WL.step (ok_move rfl) rfl ?_
  refine WL.step (ok_move rfl) rfl ?_
  refine WL.step (ok_lenSlice rfl Try.underlying22) rfl ?_
  refine WL.step (ok_lss rfl rfl) rfl ?_
  refine WL.nil ?_
  refine WX.thenC ?_
  refine WC.cond rfl (fun hc11 => ?_) (fun hc11 => ?_)
  ·
    have hlt : j < l.length := by have := of_decide_eq_true hc11; omega
    obtain ⟨b, off, rfl, hr⟩ := (hI.ext hE).at hlt
    refine WC.skip ?_
    refine WX.thenC ?_
    refine WC.seq ?_
    refine WC.block ?_
    refine WC.seq ?_
    refine WC.drawE [] 5 [(0, true), (1, true), (2, true), (3, true), (4, true), (5, true), (6, true), (7, true), (8, true), (9, true), (10, true)] mixed (by kernel_rfl) (fun hS => ?_)
    refine WO.quiet rfl (fun _ _ => ok_move rfl) hS rfl ?_
    refine WO.quiet rfl (fun _ _ => ok_move rfl) hS rfl ?_
    refine WO.quiet rfl (fun _ _ => ok_indexS _ rfl rfl rfl (by omega) Try.underlying22 sz32) hS rfl ?_
    refine WO.quiet rfl (fun _ _ => ok_field rfl fld32_1) hS rfl ?_
    refine WO.quiet rfl (fun _ hw => ok_load rfl one9 (Kp.cell hw (ro_name hr ho j hlt) (fun f => f))) hS rfl ?_
    refine WO.quiet rfl (fun _ _ => ok_move rfl) hS rfl ?_
    refine WO.quiet rfl (fun _ _ => ok_move rfl) hS rfl ?_
    refine WO.quiet rfl (fun _ _ => ok_indexS k rfl rfl rfl (by omega) Try.underlying22 sz32) hS rfl ?_
    refine WO.quiet rfl (fun _ _ => ok_field rfl fld32_1) hS rfl ?_
    refine WO.quiet rfl (fun _ hw => ok_load rfl one9 (Kp.cell hw (ro_name hr ho k hk) (fun f => f))) hS rfl ?_
    refine WO.quiet rfl (fun _ _ => ok_eqlS rfl rfl) hS rfl ?_
    refine WO.nil ?_
    refine WX.thenC ?_
    refine WC.cond rfl (fun hc24 => ?_) (fun hc24 => ?_)
    ·
      refine WC.seq ?_
      refine WC.region ?_
      refine WL.step (ok_assign rfl) rfl ?_
      refine WL.nil ?_
      refine WX.thenC ?_
      refine WC.ret ?_
      refine WX.blockR ?_
      refine WX.thenR ?_
      refine WX.thenR ?_
      refine WX.blockR ?_
      refine WX.thenR ?_
      exact WX.ret1 rfl rfl ⟨_, rfl, by rw [hln, hany, any_drop _ _ _ hlt, hc24, Bool.true_or], hE.trans (Kp.drew _ _)⟩
    ·
      refine WC.skip ?_
      refine WX.blockN ?_
      refine WX.thenC ?_
      refine WC.region ?_
      refine WL.step (ok_move rfl) rfl ?_
      refine WL.step (ok_add ((j + 1 : Nat) : Int) rfl rfl (by omega) (by omega) (by omega)) rfl ?_
      refine WL.step (ok_assign rfl) rfl ?_
      refine WL.nil ?_
      exact WX.again (j + 1) (by repeat (first | exact trivial | refine ⟨rfl, ?_⟩)) ⟨by omega, by rw [hany, any_drop _ _ _ hlt, hc24, Bool.false_or], hE.trans (Kp.drew _ _)⟩ (by omega)
  ·
    have hge : l.length ≤ j := by have := of_decide_eq_false hc11; omega
    refine WC.exit ?_
    refine WX.thenE ?_
    refine WX.thenE ?_
    refine WX.blockHit ?_
    refine WX.thenC ?_
    refine WC.seq ?_
    refine WC.region ?_
    refine WL.step (ok_assign rfl) rfl ?_
    refine WL.nil ?_
    refine WX.thenC ?_
    refine WC.ret ?_
    exact WX.ret1 rfl rfl ⟨_, rfl, by rw [hln, hany, List.drop_of_length_le hge]; rfl, hE⟩
theorem cloneSets (l : List OpR) (ho : OkO l) (a : Option Addr) (cap : Nat) (hn : l.length ≤ 4096) (hsm : ∀ o ∈ l, SmallO o) (w : World) (hI : OpsAt w a l) :
    CallsV Try.prog 11 #[.slice a l.length cap] w fun v w' => ∃ a' cap' l', v = .slice a' l.length cap' ∧ l'.length = l.length ∧ (∀ i (h : i < l.length) (h' : i < l'.length), SameO l[i] l'[i]) ∧ OpsAt w' a' l' ∧ Ext w w' := by
  refine calls_intro (args := [_]) Try.func11 rfl Try.ntmps11 rfl ?_
  refine WC.seq ?_
  refine WC.region ?_
  refine WL.step (ok_assign rfl) rfl ?_
  refine WL.nil ?_
  refine WX.thenC ?_
  refine WC.seq ?_
  refine WC.seq ?_
  refine WC.region ?_
  refine WL.step (ok_move rfl) rfl ?_
  refine WL.step (ok_eqlNil rfl Try.underlying22) rfl ?_
  refine WL.nil ?_
  refine WX.thenC ?_
  refine WC.cond rfl (fun hc6 => ?_) (fun hc6 => ?_)
  ·
    have hl0 : a = none := by simpa using hc6
    have hnil : l = [] := Classical.byContradiction fun hne => by obtain ⟨b, off, h1, _⟩ := hI.row hne; rw [hl0] at h1; cases h1
    refine WC.seq ?_
    refine WC.region ?_
    refine WL.step (ok_assign rfl) rfl ?_
    refine WL.nil ?_
    refine WX.thenC ?_
    refine WC.ret ?_
    refine WX.thenR ?_
    exact WX.ret1 rfl rfl ⟨_, rfl, none, 0, [], by rw [hnil]; rfl, by rw [hnil], fun i h h' => (by simp at h'), ⟨fun h => absurd rfl h, fun o h => (by simp at h)⟩, Kp.refl _ _⟩
  ·
    refine WC.skip ?_
    refine WX.thenC ?_
    refine WC.seq ?_
    refine WC.region ?_
    refine WL.step (ok_move rfl) rfl ?_
    refine WL.step (ok_lenSlice rfl Try.underlying22) rfl ?_
    refine WL.make (l.length) elt22 rfl (by omega) (by omega) rfl ?_
    intro b9 w9 c9 hb9 ho9 hl9 hz9 hk9 hs9
    refine WL.step (ok_assign rfl) rfl ?_
    refine WL.nil ?_
    refine WX.thenC ?_
    refine WC.seq ?_
    refine WC.seq ?_
    refine WC.region ?_
    refine WL.step (ok_assign rfl) rfl ?_
    refine WL.nil ?_
    refine WX.thenC ?_
    refine WC.block ?_
    refine WC.loop (fun k : Nat => [(0, .slice a l.length cap), (3, .slice (some ⟨b9, 0, none⟩) l.length l.length), (4, .int .i64 (k : Nat))])
      (fun k w' => k ≤ l.length ∧ Ext w w' ∧ ∃ l2 rest, Own w' b9 32 (encO l2 ++ rest) ∧ rest.length = (l.length - k) * 23 ∧ l2.length = k ∧ OkO l2 ∧ (∀ i (h : i < l.length) (h' : i < l2.length), SameO l[i] l2[i]) ∧ (∀ o ∈ l2, BytesAt w' o.va o.vl ∧ (∀ b off, o.va = some ⟨b, off, none⟩ → b ≠ b9))) (fun k => l.length - k) 0 (by repeat (first | exact trivial | refine ⟨rfl, ?_⟩)) ?_ ?_
    · exact ⟨by omega, hk9, [], c9, by simpa [encO] using ho9, by simpa using hl9, rfl, fun o h => (by simp at h), fun i h h' => (by simp at h'), fun o h => (by simp at h)⟩
    rintro k w1 ⟨hkn, hE, l2, rest, hO, hrest, hl2, hok2, hsame, hval⟩
    refine WC.seq ?_
    refine WC.seq ?_
    refine WC.region ?_
    refine WL.step (ok_move rfl) rfl ?_
    refine WL.step (ok_move rfl) rfl ?_
    refine WL.step (ok_lenSlice rfl Try.underlying22) rfl ?_
    refine WL.step (ok_lss rfl rfl) rfl ?_
    refine WL.nil ?_
    refine WX.thenC ?_
    refine WC.cond rfl (fun hc13 => ?_) (fun hc13 => ?_)
    ·
      have hlt : k < l.length := by have := of_decide_eq_true hc13; omega
      obtain ⟨b, off, rfl, hr⟩ := (hI.ext hE).at hlt
      refine WC.skip ?_
      refine WX.thenC ?_
      refine WC.seq ?_
      refine WC.block ?_
      refine WC.drawE [25] 8 [(0, true), (1, true), (2, true), (3, true), (4, true), (5, true), (6, true), (7, true), (8, true), (9, true), (10, true), (11, true), (12, true), (13, true), (14, true), (15, true), (16, true), (18, true), (19, true), (20, true), (21, true), (22, true), (17, false), (23, true), (24, true), (25, false)] mixed (by kernel_rfl) (fun hS => ?_)
      refine WO.quiet rfl (fun _ _ => ok_move rfl) hS rfl ?_
      refine WO.quiet rfl (fun _ _ => ok_move rfl) hS rfl ?_
      refine WO.quiet rfl (fun _ _ => ok_move rfl) hS rfl ?_
      refine WO.quiet rfl (fun _ _ => ok_move rfl) hS rfl ?_
      refine WO.quiet rfl (fun _ _ => ok_indexS _ rfl rfl rfl (by omega) Try.underlying22 sz32) hS rfl ?_
      refine WO.quiet rfl (fun _ _ => ok_field rfl fld32_0) hS rfl ?_
      refine WO.quiet rfl (fun _ hw => ok_loadN rfl agg29 sz29 (by simp [ho _ (List.getElem_mem hlt)]) (Rd.kp (ro_key hr ho k hlt) hw (fun f => f))) hS rfl ?_
      refine WO.quiet rfl (fun _ _ => ok_move rfl) hS rfl ?_
      refine WO.quiet rfl (fun _ _ => ok_move rfl) hS rfl ?_
      refine WO.quiet rfl (fun _ _ => ok_indexS _ rfl rfl rfl (by omega) Try.underlying22 sz32) hS rfl ?_
      refine WO.quiet rfl (fun _ _ => ok_field rfl fld32_1) hS rfl ?_
      refine WO.quiet rfl (fun _ hw => ok_load rfl one9 (Kp.cell hw (ro_name hr ho k hlt) (fun f => f))) hS rfl ?_
      refine WO.quiet rfl (fun _ _ => ok_move rfl) hS rfl ?_
      refine WO.quiet rfl (fun _ _ => ok_move rfl) hS rfl ?_
      refine WO.quiet rfl (fun _ _ => ok_indexS _ rfl rfl rfl (by omega) Try.underlying22 sz32) hS rfl ?_
      refine WO.quiet rfl (fun _ _ => ok_field rfl fld32_2) hS rfl ?_
      refine WO.quiet rfl (fun _ hw => ok_load rfl one30 (Kp.cell hw (ro_val hr ho k hlt) (fun f => f))) hS rfl ?_
      refine WO.quiet rfl (fun _ _ => ok_move rfl) hS rfl ?_
      refine WO.quiet rfl (fun _ _ => ok_move rfl) hS rfl ?_
      refine WO.quiet rfl (fun _ _ => ok_indexS _ rfl rfl rfl (by omega) Try.underlying22 sz32) hS rfl ?_
      refine WO.quiet rfl (fun _ _ => ok_field rfl fld32_3) hS rfl ?_
      refine WO.quiet rfl (fun _ hw => ok_load rfl one4 (Kp.cell hw (ro_copy hr ho k hlt) (fun f => f))) hS rfl ?_
      refine WO.loudCall rfl (ok_callF rfl isfn40) rfl (cloneBytes l[k].vl l[k].va l[k].vcap (hsm _ (List.getElem_mem hlt)).2 _ (((hI.val _ (List.getElem_mem hlt)).ext hE).ext (Kp.drew _ _))) ?_
      rintro v w33 ⟨va', vcap', rfl, hB33, hf33, hE33⟩
      refine ⟨(fun _ => hS.trans hE33), ?_⟩
      have hS := hS.trans hE33
      refine WO.quiet rfl (fun _ _ => build32 (ho _ (List.getElem_mem hlt)) rfl rfl rfl rfl) hS rfl ?_
      refine WO.quiet rfl (fun _ _ => ok_indexS _ rfl rfl rfl (by omega) Try.underlying22 sz32) hS rfl ?_
      refine WO.store rfl rfl rfl sz32 (hO.drew.ext hE33) (by simp [Value.cells, ho _ (List.getElem_mem hlt)]) (by simp only [Value.cells, List.toList_toArray, List.length_append, encO_length hok2, hl2, hrest, kc_length, ho _ (List.getElem_mem hlt), List.length_cons, List.length_nil]; omega) (one_append (kc_one _) (one_cons rfl (one_cons rfl (one_cons rfl one_nil)))) ?_
      intro wr7 hor7 hkr7 hsr7
      refine ⟨(inL rfl), ?_⟩
      obtain ⟨o', ho'⟩ : ∃ o' : OpR, o' = ⟨l[k].key, l[k].name, va', l[k].vl, vcap', l[k].copy⟩ := ⟨_, rfl⟩
      have hor7' : Own wr7 b9 32 (encO (l2 ++ [o']) ++ rest.drop 23) := by
        have h := (show Own wr7 b9 32 (splice (encO l2 ++ rest) (0 + k * 23) o'.cells) from by rw [ho']; exact hor7)
        rw [splice_mid _ _ _ _ (by rw [encO_length hok2, hl2]; omega)] at h
        have hc : o'.cells.length = 23 := by rw [ho']; simp [OpR.cells, ho _ (List.getElem_mem hlt)]
        rw [hc] at h
        have : encO (l2 ++ [o']) = encO l2 ++ o'.cells := by simp [encO]
        rw [this]; exact h
      have hE7 : Ext w wr7 := ((hE.trans (Kp.drew _ _)).trans hE33).over hkr7 (fun i hi e => by omega)
      refine WO.nil ?_
      refine WX.blockN ?_
      refine WX.thenC ?_
      refine WC.region ?_
      refine WL.step (ok_move rfl) rfl ?_
      refine WL.step (ok_add ((k + 1 : Nat) : Int) rfl rfl (by omega) (by omega) (by omega)) rfl ?_
      refine WL.step (ok_assign rfl) rfl ?_
      refine WL.nil ?_
      refine WX.again (k + 1) (by repeat (first | exact trivial | refine ⟨rfl, ?_⟩)) ⟨by omega, hE7, l2 ++ [o'], rest.drop 23, hor7', by rw [List.length_drop, hrest]; omega, by simp [hl2], ?_, ?_, ?_⟩ (by omega)
      · intro o h
        rcases List.mem_append.1 h with h | h
        · exact hok2 o h
        · simp at h; subst h; rw [ho']; exact ho l[k] (List.getElem_mem hlt)
      · intro i h h'
        rw [List.getElem_append]
        split
        · exact hsame i h _
        · have : i = k := by simp at h'; omega
          subst this
          simp only [List.getElem_singleton, ho']
          exact ⟨rfl, rfl, rfl, rfl⟩
      · intro o h
        rcases List.mem_append.1 h with h | h
        · obtain ⟨q1, q2⟩ := hval o h
          exact ⟨((q1.ext (Kp.drew _ _)).ext hE33).kp hkr7 (fun b off e => q2 b off e), q2⟩
        · simp at h
          subst h
          rw [ho']
          have hb9l := hO.lt
          have q2 : ∀ b off, va' = some ⟨b, off, none⟩ → b ≠ b9 := fun b off e => by have := hf33 b off e; simp only [World.size_drew] at this; omega
          exact ⟨hB33.kp hkr7 (fun b off e => q2 b off e), q2⟩
    ·
      have hge : k = l.length := by have := of_decide_eq_false hc13; omega
      refine WC.exit ?_
      refine WX.thenE ?_
      refine WX.thenE ?_
      refine WX.blockHit ?_
      refine WX.thenC ?_
      refine WC.seq ?_
      refine WC.region ?_
      refine WL.step (ok_move rfl) rfl ?_
      refine WL.step (ok_assign rfl) rfl ?_
      refine WL.nil ?_
      refine WX.thenC ?_
      refine WC.ret ?_
      exact WX.ret1 rfl rfl ⟨_, rfl, some ⟨b9, 0, none⟩, l.length, l2, rfl, by omega, hsame, ⟨fun _ => ⟨b9, 0, rfl, hO.rd0.append_left⟩, fun o h => (hval o h).1⟩, hE⟩

end Go.Proofs.Try
