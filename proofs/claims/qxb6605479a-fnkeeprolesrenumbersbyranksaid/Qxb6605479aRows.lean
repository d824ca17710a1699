/-
  No cell of these rows narrows 'for every input' (looked for: loops, veiled, ifaces, maps, wideKeys, modest, calm, conditions, laid).
  DERIVED. THE GIVEN ROWS OF THIS SEAT. 6 by the template 'for every input the law returns true; each argument reads behind the call as it read before'; 0 by the template 'total and deterministic' (their statements: Qxb6605479aTotals.lean).
  GIVEN WITH THE SEED: the statements are not yours to turn. If you find one false, say at which input.
  Laid BY PROGRAM, IN A SANDBOX (cutbox-rows.mjs): the forced cells as the released guide's own fill.sh prints them over the translation e4ff4b649050ba8c… (all of the seat's roots in one cut). By AI agents, Wed Nov 11 2026. No macro, syntax, notation, axiom, sorry.
-/
import Derived.Test.Qxb6605479aChecked
import GoSem.Claim
import GoSem.ClaimJoined
import GoSem.ClaimMapViews
import Derived.JoinedTies
import Derived.KernelRfl
namespace Go.Proofs.Qxb6605479a
/- THE CELL 'sum', in the pinned program and in every row, IS THE sha256 OF THE DUMP (.gsa) THAT Qxb6605479aProg.lean LOADS. Nothing in Lean hashes anything: it is a label: what it is worth is what the hold of that sum in a sandbox is worth. -/
noncomputable def Try.pinned : Pinned := { name := "qxb6605479a", sum := "e4ff4b649050ba8c3ad05abaf65feaa3ee6cb3b01ebe5a6f0a780860a006e73d", checked := Try.checked }
namespace Rows
def none {H : Type} : Left H := { results := [], args := [] }

/-- 'zzlaws_root_b1.FnGrowIsLeastFixpoint': WHATEVER THE INPUT: true; the input reads as it did. -/
def fnGrowIsLeastFixpointSpec : ChangeSpec := { name := "fnGrowIsLeastFixpoint", fn := fun _ => fun
  | [d1, d2, d3] => { results := [.lit (.bool true)], args := [d1, d2, d3] }
  | _ => none }
def fnGrowIsLeastFixpointRow : OpenClaim := { program := "qxb6605479a", sum := "e4ff4b649050ba8c3ad05abaf65feaa3ee6cb3b01ebe5a6f0a780860a006e73d", func := "example.com/libentitle/libentitle/zzlaws_root_b1.FnGrowIsLeastFixpoint", spec := "fnGrowIsLeastFixpoint", unfollowed := true, recurses := true, apart := false }
def FnGrowIsLeastFixpointSaid : Prop := fnGrowIsLeastFixpointRow.holds Try.pinned (OpenSpec.ofChange fnGrowIsLeastFixpointSpec)

/-- ITS FALSE NEIGHBOUR: 'it returns false'. Refute it at one input. -/
def fnGrowIsLeastFixpointWrong : ChangeSpec := { name := "fnGrowIsLeastFixpoint", fn := fun _ => fun
  | [d1, d2, d3] => { results := [.lit (.bool false)], args := [d1, d2, d3] }
  | _ => none }
def FnGrowIsLeastFixpointWrongFalsely : Prop := fnGrowIsLeastFixpointRow.holds Try.pinned (OpenSpec.ofChange fnGrowIsLeastFixpointWrong)

/-- 'zzlaws_root_b1.FnGrowClosedOrderFreeIdempotent': WHATEVER THE INPUT: true; the input reads as it did. -/
def fnGrowClosedOrderFreeIdempotentSpec : ChangeSpec := { name := "fnGrowClosedOrderFreeIdempotent", fn := fun _ => fun
  | [d1, d2, d3] => { results := [.lit (.bool true)], args := [d1, d2, d3] }
  | _ => none }
def fnGrowClosedOrderFreeIdempotentRow : OpenClaim := { program := "qxb6605479a", sum := "e4ff4b649050ba8c3ad05abaf65feaa3ee6cb3b01ebe5a6f0a780860a006e73d", func := "example.com/libentitle/libentitle/zzlaws_root_b1.FnGrowClosedOrderFreeIdempotent", spec := "fnGrowClosedOrderFreeIdempotent", unfollowed := true, recurses := true, apart := false }
def FnGrowClosedOrderFreeIdempotentSaid : Prop := fnGrowClosedOrderFreeIdempotentRow.holds Try.pinned (OpenSpec.ofChange fnGrowClosedOrderFreeIdempotentSpec)

/-- ITS FALSE NEIGHBOUR: 'it returns false'. Refute it at one input. -/
def fnGrowClosedOrderFreeIdempotentWrong : ChangeSpec := { name := "fnGrowClosedOrderFreeIdempotent", fn := fun _ => fun
  | [d1, d2, d3] => { results := [.lit (.bool false)], args := [d1, d2, d3] }
  | _ => none }
def FnGrowClosedOrderFreeIdempotentWrongFalsely : Prop := fnGrowClosedOrderFreeIdempotentRow.holds Try.pinned (OpenSpec.ofChange fnGrowClosedOrderFreeIdempotentWrong)

/-- 'zzlaws_root_b1.FnMatteringIsLeastClosedSet': WHATEVER THE INPUT: true; the input reads as it did. -/
def fnMatteringIsLeastClosedSetSpec : ChangeSpec := { name := "fnMatteringIsLeastClosedSet", fn := fun _ => fun
  | [d1, d2, d3, d4] => { results := [.lit (.bool true)], args := [d1, d2, d3, d4] }
  | _ => none }
def fnMatteringIsLeastClosedSetRow : OpenClaim := { program := "qxb6605479a", sum := "e4ff4b649050ba8c3ad05abaf65feaa3ee6cb3b01ebe5a6f0a780860a006e73d", func := "example.com/libentitle/libentitle/zzlaws_root_b1.FnMatteringIsLeastClosedSet", spec := "fnMatteringIsLeastClosedSet", unfollowed := true, recurses := true, apart := false }
def FnMatteringIsLeastClosedSetSaid : Prop := fnMatteringIsLeastClosedSetRow.holds Try.pinned (OpenSpec.ofChange fnMatteringIsLeastClosedSetSpec)

/-- ITS FALSE NEIGHBOUR: 'it returns false'. Refute it at one input. -/
def fnMatteringIsLeastClosedSetWrong : ChangeSpec := { name := "fnMatteringIsLeastClosedSet", fn := fun _ => fun
  | [d1, d2, d3, d4] => { results := [.lit (.bool false)], args := [d1, d2, d3, d4] }
  | _ => none }
def FnMatteringIsLeastClosedSetWrongFalsely : Prop := fnMatteringIsLeastClosedSetRow.holds Try.pinned (OpenSpec.ofChange fnMatteringIsLeastClosedSetWrong)

/-- 'zzlaws_root_b1.FnMatteringClosedJustifiedOrderFree': WHATEVER THE INPUT: true; the input reads as it did. -/
def fnMatteringClosedJustifiedOrderFreeSpec : ChangeSpec := { name := "fnMatteringClosedJustifiedOrderFree", fn := fun _ => fun
  | [d1, d2, d3, d4] => { results := [.lit (.bool true)], args := [d1, d2, d3, d4] }
  | _ => none }
def fnMatteringClosedJustifiedOrderFreeRow : OpenClaim := { program := "qxb6605479a", sum := "e4ff4b649050ba8c3ad05abaf65feaa3ee6cb3b01ebe5a6f0a780860a006e73d", func := "example.com/libentitle/libentitle/zzlaws_root_b1.FnMatteringClosedJustifiedOrderFree", spec := "fnMatteringClosedJustifiedOrderFree", unfollowed := true, recurses := true, apart := false }
def FnMatteringClosedJustifiedOrderFreeSaid : Prop := fnMatteringClosedJustifiedOrderFreeRow.holds Try.pinned (OpenSpec.ofChange fnMatteringClosedJustifiedOrderFreeSpec)

/-- ITS FALSE NEIGHBOUR: 'it returns false'. Refute it at one input. -/
def fnMatteringClosedJustifiedOrderFreeWrong : ChangeSpec := { name := "fnMatteringClosedJustifiedOrderFree", fn := fun _ => fun
  | [d1, d2, d3, d4] => { results := [.lit (.bool false)], args := [d1, d2, d3, d4] }
  | _ => none }
def FnMatteringClosedJustifiedOrderFreeWrongFalsely : Prop := fnMatteringClosedJustifiedOrderFreeRow.holds Try.pinned (OpenSpec.ofChange fnMatteringClosedJustifiedOrderFreeWrong)

/-- 'zzlaws_root_b1.FnKeepRolesRenumbersByRank': WHATEVER THE INPUT: true; the input reads as it did. -/
def fnKeepRolesRenumbersByRankSpec : ChangeSpec := { name := "fnKeepRolesRenumbersByRank", fn := fun _ => fun
  | [d1, d2, d3, d4, d5, d6, d7, d8, d9] => { results := [.lit (.bool true)], args := [d1, d2, d3, d4, d5, d6, d7, d8, d9] }
  | _ => none }
def fnKeepRolesRenumbersByRankRow : OpenClaim := { program := "qxb6605479a", sum := "e4ff4b649050ba8c3ad05abaf65feaa3ee6cb3b01ebe5a6f0a780860a006e73d", func := "example.com/libentitle/libentitle/zzlaws_root_b1.FnKeepRolesRenumbersByRank", spec := "fnKeepRolesRenumbersByRank", apart := false }
def FnKeepRolesRenumbersByRankSaid : Prop := fnKeepRolesRenumbersByRankRow.holds Try.pinned (OpenSpec.ofChange fnKeepRolesRenumbersByRankSpec)

/-- ITS FALSE NEIGHBOUR: 'it returns false'. Refute it at one input. -/
def fnKeepRolesRenumbersByRankWrong : ChangeSpec := { name := "fnKeepRolesRenumbersByRank", fn := fun _ => fun
  | [d1, d2, d3, d4, d5, d6, d7, d8, d9] => { results := [.lit (.bool false)], args := [d1, d2, d3, d4, d5, d6, d7, d8, d9] }
  | _ => none }
def FnKeepRolesRenumbersByRankWrongFalsely : Prop := fnKeepRolesRenumbersByRankRow.holds Try.pinned (OpenSpec.ofChange fnKeepRolesRenumbersByRankWrong)

/-- 'zzlaws_root_b1.FnKeepRolesAfterMatteringAllMatter': WHATEVER THE INPUT: true; the input reads as it did. -/
def fnKeepRolesAfterMatteringAllMatterSpec : ChangeSpec := { name := "fnKeepRolesAfterMatteringAllMatter", fn := fun _ => fun
  | [d1, d2, d3, d4, d5, d6, d7, d8] => { results := [.lit (.bool true)], args := [d1, d2, d3, d4, d5, d6, d7, d8] }
  | _ => none }
def fnKeepRolesAfterMatteringAllMatterRow : OpenClaim := { program := "qxb6605479a", sum := "e4ff4b649050ba8c3ad05abaf65feaa3ee6cb3b01ebe5a6f0a780860a006e73d", func := "example.com/libentitle/libentitle/zzlaws_root_b1.FnKeepRolesAfterMatteringAllMatter", spec := "fnKeepRolesAfterMatteringAllMatter", unfollowed := true, recurses := true, apart := false }
def FnKeepRolesAfterMatteringAllMatterSaid : Prop := fnKeepRolesAfterMatteringAllMatterRow.holds Try.pinned (OpenSpec.ofChange fnKeepRolesAfterMatteringAllMatterSpec)

/-- ITS FALSE NEIGHBOUR: 'it returns false'. Refute it at one input. -/
def fnKeepRolesAfterMatteringAllMatterWrong : ChangeSpec := { name := "fnKeepRolesAfterMatteringAllMatter", fn := fun _ => fun
  | [d1, d2, d3, d4, d5, d6, d7, d8] => { results := [.lit (.bool false)], args := [d1, d2, d3, d4, d5, d6, d7, d8] }
  | _ => none }
def FnKeepRolesAfterMatteringAllMatterWrongFalsely : Prop := fnKeepRolesAfterMatteringAllMatterRow.holds Try.pinned (OpenSpec.ofChange fnKeepRolesAfterMatteringAllMatterWrong)

end Rows
end Go.Proofs.Qxb6605479a
