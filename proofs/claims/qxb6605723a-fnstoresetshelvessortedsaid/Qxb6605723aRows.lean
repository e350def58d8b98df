/-
  No cell of these rows narrows 'for every input' (looked for: loops, veiled, ifaces, maps, wideKeys, modest, calm, conditions, laid).
  DERIVED. THE GIVEN ROWS OF THIS SEAT. 6 by the template 'for every input the law returns true; each argument reads behind the call as it read before'; 0 by the template 'total and deterministic' (their statements: Qxb6605723aTotals.lean).
  GIVEN WITH THE SEED: the statements are not yours to turn. If you find one false, say at which input.
  Laid BY PROGRAM, IN A SANDBOX (cutbox-rows.mjs): the forced cells as the released guide's own fill.sh prints them over the translation f6f14c41e38e5102… (all of the seat's roots in one cut). By AI agents, Wed Nov 11 2026. No macro, syntax, notation, axiom, sorry.
-/
import Derived.Test.Qxb6605723aChecked
import GoSem.Claim
import GoSem.ClaimJoined
import GoSem.ClaimMapViews
import Derived.JoinedTies
import Derived.KernelRfl
namespace Go.Proofs.Qxb6605723a
/- THE CELL 'sum', in the pinned program and in every row, IS THE sha256 OF THE DUMP (.gsa) THAT Qxb6605723aProg.lean LOADS. Nothing in Lean hashes anything: it is a label: what it is worth is what the hold of that sum in a sandbox is worth. -/
noncomputable def Try.pinned : Pinned := { name := "qxb6605723a", sum := "f6f14c41e38e5102042e38b51c3c8b260214d5a53e854577f026128047dccc0f", checked := Try.checked }
namespace Rows
def none {H : Type} : Left H := { results := [], args := [] }

/-- 'zzlaws_chord_b1.FnStoreSetLastWriteWins': WHATEVER THE INPUT: true; the input reads as it did. -/
def fnStoreSetLastWriteWinsSpec : ChangeSpec := { name := "fnStoreSetLastWriteWins", fn := fun _ => fun
  | [d1, d2] => { results := [.lit (.bool true)], args := [d1, d2] }
  | _ => none }
def fnStoreSetLastWriteWinsRow : OpenClaim := { program := "qxb6605723a", sum := "f6f14c41e38e5102042e38b51c3c8b260214d5a53e854577f026128047dccc0f", func := "example.com/essaim/essaim/zzlaws_chord_b1.FnStoreSetLastWriteWins", spec := "fnStoreSetLastWriteWins", unfollowed := true, recurses := true, named := ["encoding/binary.BigEndian"], apart := false }
def FnStoreSetLastWriteWinsSaid : Prop := fnStoreSetLastWriteWinsRow.holds Try.pinned (OpenSpec.ofChange fnStoreSetLastWriteWinsSpec)

/-- ITS FALSE NEIGHBOUR: 'it returns false'. Refute it at one input. -/
def fnStoreSetLastWriteWinsWrong : ChangeSpec := { name := "fnStoreSetLastWriteWins", fn := fun _ => fun
  | [d1, d2] => { results := [.lit (.bool false)], args := [d1, d2] }
  | _ => none }
def FnStoreSetLastWriteWinsWrongFalsely : Prop := fnStoreSetLastWriteWinsRow.holds Try.pinned (OpenSpec.ofChange fnStoreSetLastWriteWinsWrong)

/-- 'zzlaws_chord_b1.FnStoreSetShelvesSorted': WHATEVER THE INPUT: true; the input reads as it did. -/
def fnStoreSetShelvesSortedSpec : ChangeSpec := { name := "fnStoreSetShelvesSorted", fn := fun _ => fun
  | [d] => { results := [.lit (.bool true)], args := [d] }
  | _ => none }
def fnStoreSetShelvesSortedRow : OpenClaim := { program := "qxb6605723a", sum := "f6f14c41e38e5102042e38b51c3c8b260214d5a53e854577f026128047dccc0f", func := "example.com/essaim/essaim/zzlaws_chord_b1.FnStoreSetShelvesSorted", spec := "fnStoreSetShelvesSorted", unfollowed := true, recurses := true, named := ["encoding/binary.BigEndian"], apart := false }
def FnStoreSetShelvesSortedSaid : Prop := fnStoreSetShelvesSortedRow.holds Try.pinned (OpenSpec.ofChange fnStoreSetShelvesSortedSpec)

/-- ITS FALSE NEIGHBOUR: 'it returns false'. Refute it at one input. -/
def fnStoreSetShelvesSortedWrong : ChangeSpec := { name := "fnStoreSetShelvesSorted", fn := fun _ => fun
  | [d] => { results := [.lit (.bool false)], args := [d] }
  | _ => none }
def FnStoreSetShelvesSortedWrongFalsely : Prop := fnStoreSetShelvesSortedRow.holds Try.pinned (OpenSpec.ofChange fnStoreSetShelvesSortedWrong)

/-- 'zzlaws_chord_b1.FnShelfAfterCountsKeysAtMost': WHATEVER THE INPUT: true; the input reads as it did. -/
def fnShelfAfterCountsKeysAtMostSpec : ChangeSpec := { name := "fnShelfAfterCountsKeysAtMost", fn := fun _ => fun
  | [d1, d2] => { results := [.lit (.bool true)], args := [d1, d2] }
  | _ => none }
def fnShelfAfterCountsKeysAtMostRow : OpenClaim := { program := "qxb6605723a", sum := "f6f14c41e38e5102042e38b51c3c8b260214d5a53e854577f026128047dccc0f", func := "example.com/essaim/essaim/zzlaws_chord_b1.FnShelfAfterCountsKeysAtMost", spec := "fnShelfAfterCountsKeysAtMost", unfollowed := true, recurses := true, named := ["encoding/binary.BigEndian"], apart := false }
def FnShelfAfterCountsKeysAtMostSaid : Prop := fnShelfAfterCountsKeysAtMostRow.holds Try.pinned (OpenSpec.ofChange fnShelfAfterCountsKeysAtMostSpec)

/-- ITS FALSE NEIGHBOUR: 'it returns false'. Refute it at one input. -/
def fnShelfAfterCountsKeysAtMostWrong : ChangeSpec := { name := "fnShelfAfterCountsKeysAtMost", fn := fun _ => fun
  | [d1, d2] => { results := [.lit (.bool false)], args := [d1, d2] }
  | _ => none }
def FnShelfAfterCountsKeysAtMostWrongFalsely : Prop := fnShelfAfterCountsKeysAtMostRow.holds Try.pinned (OpenSpec.ofChange fnShelfAfterCountsKeysAtMostWrong)

/-- 'zzlaws_chord_b1.FnShelfFindPlacesPair': WHATEVER THE INPUT: true; the input reads as it did. -/
def fnShelfFindPlacesPairSpec : ChangeSpec := { name := "fnShelfFindPlacesPair", fn := fun _ => fun
  | [d1, d2, d3] => { results := [.lit (.bool true)], args := [d1, d2, d3] }
  | _ => none }
def fnShelfFindPlacesPairRow : OpenClaim := { program := "qxb6605723a", sum := "f6f14c41e38e5102042e38b51c3c8b260214d5a53e854577f026128047dccc0f", func := "example.com/essaim/essaim/zzlaws_chord_b1.FnShelfFindPlacesPair", spec := "fnShelfFindPlacesPair", unfollowed := true, recurses := true, named := ["encoding/binary.BigEndian"], apart := false }
def FnShelfFindPlacesPairSaid : Prop := fnShelfFindPlacesPairRow.holds Try.pinned (OpenSpec.ofChange fnShelfFindPlacesPairSpec)

/-- ITS FALSE NEIGHBOUR: 'it returns false'. Refute it at one input. -/
def fnShelfFindPlacesPairWrong : ChangeSpec := { name := "fnShelfFindPlacesPair", fn := fun _ => fun
  | [d1, d2, d3] => { results := [.lit (.bool false)], args := [d1, d2, d3] }
  | _ => none }
def FnShelfFindPlacesPairWrongFalsely : Prop := fnShelfFindPlacesPairRow.holds Try.pinned (OpenSpec.ofChange fnShelfFindPlacesPairWrong)

/-- 'zzlaws_chord_b1.FnShelfInsertSplicesInOrder': WHATEVER THE INPUT: true; the input reads as it did. -/
def fnShelfInsertSplicesInOrderSpec : ChangeSpec := { name := "fnShelfInsertSplicesInOrder", fn := fun _ => fun
  | [d1, d2, d3, d4, d5] => { results := [.lit (.bool true)], args := [d1, d2, d3, d4, d5] }
  | _ => none }
def fnShelfInsertSplicesInOrderRow : OpenClaim := { program := "qxb6605723a", sum := "f6f14c41e38e5102042e38b51c3c8b260214d5a53e854577f026128047dccc0f", func := "example.com/essaim/essaim/zzlaws_chord_b1.FnShelfInsertSplicesInOrder", spec := "fnShelfInsertSplicesInOrder", unfollowed := true, recurses := true, named := ["encoding/binary.BigEndian"], apart := false }
def FnShelfInsertSplicesInOrderSaid : Prop := fnShelfInsertSplicesInOrderRow.holds Try.pinned (OpenSpec.ofChange fnShelfInsertSplicesInOrderSpec)

/-- ITS FALSE NEIGHBOUR: 'it returns false'. Refute it at one input. -/
def fnShelfInsertSplicesInOrderWrong : ChangeSpec := { name := "fnShelfInsertSplicesInOrder", fn := fun _ => fun
  | [d1, d2, d3, d4, d5] => { results := [.lit (.bool false)], args := [d1, d2, d3, d4, d5] }
  | _ => none }
def FnShelfInsertSplicesInOrderWrongFalsely : Prop := fnShelfInsertSplicesInOrderRow.holds Try.pinned (OpenSpec.ofChange fnShelfInsertSplicesInOrderWrong)

/-- 'zzlaws_chord_b1.FnShelfInsertKeepsRunBounds': WHATEVER THE INPUT: true; the input reads as it did. -/
def fnShelfInsertKeepsRunBoundsSpec : ChangeSpec := { name := "fnShelfInsertKeepsRunBounds", fn := fun _ => fun
  | [d1, d2, d3] => { results := [.lit (.bool true)], args := [d1, d2, d3] }
  | _ => none }
def fnShelfInsertKeepsRunBoundsRow : OpenClaim := { program := "qxb6605723a", sum := "f6f14c41e38e5102042e38b51c3c8b260214d5a53e854577f026128047dccc0f", func := "example.com/essaim/essaim/zzlaws_chord_b1.FnShelfInsertKeepsRunBounds", spec := "fnShelfInsertKeepsRunBounds", unfollowed := true, recurses := true, named := ["encoding/binary.BigEndian"], apart := false }
def FnShelfInsertKeepsRunBoundsSaid : Prop := fnShelfInsertKeepsRunBoundsRow.holds Try.pinned (OpenSpec.ofChange fnShelfInsertKeepsRunBoundsSpec)

/-- ITS FALSE NEIGHBOUR: 'it returns false'. Refute it at one input. -/
def fnShelfInsertKeepsRunBoundsWrong : ChangeSpec := { name := "fnShelfInsertKeepsRunBounds", fn := fun _ => fun
  | [d1, d2, d3] => { results := [.lit (.bool false)], args := [d1, d2, d3] }
  | _ => none }
def FnShelfInsertKeepsRunBoundsWrongFalsely : Prop := fnShelfInsertKeepsRunBoundsRow.holds Try.pinned (OpenSpec.ofChange fnShelfInsertKeepsRunBoundsWrong)

end Rows
end Go.Proofs.Qxb6605723a
