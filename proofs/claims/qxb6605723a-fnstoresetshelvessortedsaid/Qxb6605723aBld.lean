/- The program's structs, built. -/
import Derived.Test.Qxb6605723aTy
import Derived.Test.Qxb6605723aDat
set_option linter.unusedVariables false
set_option linter.unusedSimpArgs false
namespace Go.Proofs.Try
open Go.Sx Go.Pl

section
variable {s : Store} {ty : TypeId} {w : World} {x y u : Operand}

theorem build64 {k : List UInt8} {n : ByteArray} (hk : k.length = 20) (hx : ev s x = some (.agg (kc k).toArray)) (hy : ev s y = some (.string n)) :
    OpOk Try.prog s (.build 64 #[(0, x), (1, y)]) ty w (.agg (kc k ++ [Value.string n]).toArray) w := by
  refine ok_build (vs := [.agg (kc k).toArray, .string n]) zero64 flds64 (by simp [evs, hx, hy]) ?_
  simp [fillL, splice, Value.cells, hk, List.drop_append, List.take_append]

theorem build35 {k : List UInt8} {n : ByteArray} (hk : k.length = 20) (hx : ev s x = some (.agg (kc k).toArray)) (hy : ev s y = some (.string n)) :
    OpOk Try.prog s (.build 35 #[(0, x), (1, y)]) ty w (.agg (kc k ++ [Value.string n, .slice none 0 0]).toArray) w := by
  refine ok_build (vs := [.agg (kc k).toArray, .string n]) zero35 flds35 (by simp [evs, hx, hy]) ?_
  simp [fillL, splice, Value.cells, hk, List.drop_append, List.take_append]

theorem build35v {k : List UInt8} {n : ByteArray} {a : Option Addr} {len cap : Nat} (hk : k.length = 20) (hx : ev s x = some (.agg (kc k).toArray)) (hy : ev s y = some (.string n)) (hu : ev s u = some (.slice a len cap)) :
    OpOk Try.prog s (.build 35 #[(0, x), (1, y), (2, u)]) ty w (.agg (kc k ++ [Value.string n, .slice a len cap]).toArray) w := by
  refine ok_build (vs := [.agg (kc k).toArray, .string n, .slice a len cap]) zero35 flds35 (by simp [evs, hx, hy, hu]) ?_
  have e1 : List.take 21 (kc k) = kc k := List.take_of_length_le (by simp [hk])
  have e2 : List.drop 21 (kc k) = [] := List.drop_of_length_le (by simp [hk])
  have e3 : List.drop 22 (kc k) = [] := List.drop_of_length_le (by simp [hk])
  simp [fillL, splice, Value.cells, hk, List.drop_append, List.take_append, e1, e2, e3]

theorem build54 {e : List Value} {n : Int} (he : e.length = 22) (hx : ev s x = some (.agg e.toArray)) (hy : ev s y = some (.int .u64 n)) :
    OpOk Try.prog s (.build 54 #[(0, x), (1, y)]) ty w (.agg (e ++ [Value.int .u64 n]).toArray) w := by
  refine ok_build (vs := [.agg e.toArray, .int .u64 n]) zero54 flds54 (by simp [evs, hx, hy]) ?_
  simp [fillL, splice, Value.cells, he, List.drop_append, List.take_append]

def zslot : List Value := [.int .u8 0, .int .u8 0, .int .u8 0, .int .u8 0, .int .u8 0, .int .u8 0, .int .u8 0, .int .u8 0, .int .u8 0, .int .u8 0, .int .u8 0, .int .u8 0, .int .u8 0, .int .u8 0, .int .u8 0, .int .u8 0, .int .u8 0, .int .u8 0, .int .u8 0, .int .u8 0, .string ⟨#[]⟩, .slice none 0 0, .int .u64 0]

theorem build54z : OpOk Try.prog s (.build 54 #[]) ty w (.agg zslot.toArray) w :=
  ok_build (vs := []) zero54 flds54 rfl rfl

theorem build92 {n : Int} (hx : ev s x = some (.int .i64 n)) : OpOk Try.prog s (.build 92 #[(0, x)]) ty w (.agg #[.int .i64 n, .int .i64 0]) w := by
  refine ok_build (vs := [.int .i64 n]) (res := [.int .i64 n, .int .i64 0]) zero92 flds92 (by simp [evs, hx]) ?_
  simp [fillL, splice, Value.cells]

theorem build92b {n m : Int} (hx : ev s x = some (.int .i64 n)) (hy : ev s y = some (.int .i64 m)) : OpOk Try.prog s (.build 92 #[(0, x), (1, y)]) ty w (.agg #[.int .i64 n, .int .i64 m]) w := by
  refine ok_build (vs := [.int .i64 n, .int .i64 m]) (res := [.int .i64 n, .int .i64 m]) zero92 flds92 (by simp [evs, hx, hy]) ?_
  simp [fillL, splice, Value.cells]

theorem build80 : OpOk Try.prog s (.build 80 #[]) ty w (.agg #[.slice none 0 0]) w :=
  ok_build (vs := []) (res := [.slice none 0 0]) zero80 flds80 rfl rfl
end
end Go.Proofs.Try
