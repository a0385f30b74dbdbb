/-
  No cell of these rows narrows 'for every input' (looked for: loops, veiled, ifaces, maps, wideKeys, modest, calm, conditions, laid).
  DERIVED. THE GIVEN ROWS OF THIS SEAT. 7 by the template 'for every input the law returns true; each argument reads behind the call as it read before'; 0 by the template 'total and deterministic' (their statements: Qxb6601295aTotals.lean).
  GIVEN WITH THE SEED: the statements are not yours to turn. If you find one false, say at which input.
  Laid BY PROGRAM, IN A SANDBOX (cutbox-rows.mjs): the forced cells as the released guide's own fill.sh prints them over the translation f5303f48ddade1d5… (all of the seat's roots in one cut). By AI agents, Wed Nov 11 2026. No macro, syntax, notation, axiom, sorry.
-/
import Derived.Test.Qxb6601295aChecked
import GoSem.Claim
import GoSem.ClaimJoined
import GoSem.ClaimMapViews
import Derived.JoinedTies
import Derived.KernelRfl
namespace Go.Proofs.Qxb6601295a
/- THE CELL 'sum', in the pinned program and in every row, IS THE sha256 OF THE DUMP (.gsa) THAT Qxb6601295aProg.lean LOADS. Nothing in Lean hashes anything: it is a label: what it is worth is what the hold of that sum in a sandbox is worth. -/
noncomputable def Try.pinned : Pinned := { name := "qxb6601295a", sum := "f5303f48ddade1d59b29578a595652e63e4ba0db8d457ff98173eaae270be620", checked := Try.checked }
namespace Rows
def none {H : Type} : Left H := { results := [], args := [] }

/-- 'zzlaws_root_b1.FnTopicMatchesAgreesWithWordTable': WHATEVER THE INPUT: true; the input reads as it did. -/
def fnTopicMatchesAgreesWithWordTableSpec : ChangeSpec := { name := "fnTopicMatchesAgreesWithWordTable", fn := fun _ => fun
  | [d1, d2, d3, d4, d5, d6] => { results := [.lit (.bool true)], args := [d1, d2, d3, d4, d5, d6] }
  | _ => none }
def fnTopicMatchesAgreesWithWordTableRow : OpenClaim := { program := "qxb6601295a", sum := "f5303f48ddade1d59b29578a595652e63e4ba0db8d457ff98173eaae270be620", func := "example.com/grant/grant/zzlaws_root_b1.FnTopicMatchesAgreesWithWordTable", spec := "fnTopicMatchesAgreesWithWordTable", inPlace := ["internal/bytealg.IndexByteString", "internal/bytealg.IndexString"], unfollowed := true, recurses := true, named := ["internal/bytealg.MaxLen"], apart := false }
def FnTopicMatchesAgreesWithWordTableSaid : Prop := fnTopicMatchesAgreesWithWordTableRow.holds Try.pinned (OpenSpec.ofChange fnTopicMatchesAgreesWithWordTableSpec)

/-- ITS FALSE NEIGHBOUR: 'it returns false'. Refute it at one input. -/
def fnTopicMatchesAgreesWithWordTableWrong : ChangeSpec := { name := "fnTopicMatchesAgreesWithWordTable", fn := fun _ => fun
  | [d1, d2, d3, d4, d5, d6] => { results := [.lit (.bool false)], args := [d1, d2, d3, d4, d5, d6] }
  | _ => none }
def FnTopicMatchesAgreesWithWordTableWrongFalsely : Prop := fnTopicMatchesAgreesWithWordTableRow.holds Try.pinned (OpenSpec.ofChange fnTopicMatchesAgreesWithWordTableWrong)

/-- 'zzlaws_root_b1.FnTopicMatchesWideningKeepsMatch': WHATEVER THE INPUT: true; the input reads as it did. -/
def fnTopicMatchesWideningKeepsMatchSpec : ChangeSpec := { name := "fnTopicMatchesWideningKeepsMatch", fn := fun _ => fun
  | [d1, d2, d3, d4, d5, d6, d7, d8] => { results := [.lit (.bool true)], args := [d1, d2, d3, d4, d5, d6, d7, d8] }
  | _ => none }
def fnTopicMatchesWideningKeepsMatchRow : OpenClaim := { program := "qxb6601295a", sum := "f5303f48ddade1d59b29578a595652e63e4ba0db8d457ff98173eaae270be620", func := "example.com/grant/grant/zzlaws_root_b1.FnTopicMatchesWideningKeepsMatch", spec := "fnTopicMatchesWideningKeepsMatch", inPlace := ["internal/bytealg.IndexByteString", "internal/bytealg.IndexString"], unfollowed := true, recurses := true, named := ["internal/bytealg.MaxLen"], apart := false }
def FnTopicMatchesWideningKeepsMatchSaid : Prop := fnTopicMatchesWideningKeepsMatchRow.holds Try.pinned (OpenSpec.ofChange fnTopicMatchesWideningKeepsMatchSpec)

/-- ITS FALSE NEIGHBOUR: 'it returns false'. Refute it at one input. -/
def fnTopicMatchesWideningKeepsMatchWrong : ChangeSpec := { name := "fnTopicMatchesWideningKeepsMatch", fn := fun _ => fun
  | [d1, d2, d3, d4, d5, d6, d7, d8] => { results := [.lit (.bool false)], args := [d1, d2, d3, d4, d5, d6, d7, d8] }
  | _ => none }
def FnTopicMatchesWideningKeepsMatchWrongFalsely : Prop := fnTopicMatchesWideningKeepsMatchRow.holds Try.pinned (OpenSpec.ofChange fnTopicMatchesWideningKeepsMatchWrong)

/-- 'zzlaws_root_b1.FnTopicMatchesDoubledHashChangesNothing': WHATEVER THE INPUT: true; the input reads as it did. -/
def fnTopicMatchesDoubledHashChangesNothingSpec : ChangeSpec := { name := "fnTopicMatchesDoubledHashChangesNothing", fn := fun _ => fun
  | [d1, d2, d3, d4, d5, d6, d7] => { results := [.lit (.bool true)], args := [d1, d2, d3, d4, d5, d6, d7] }
  | _ => none }
def fnTopicMatchesDoubledHashChangesNothingRow : OpenClaim := { program := "qxb6601295a", sum := "f5303f48ddade1d59b29578a595652e63e4ba0db8d457ff98173eaae270be620", func := "example.com/grant/grant/zzlaws_root_b1.FnTopicMatchesDoubledHashChangesNothing", spec := "fnTopicMatchesDoubledHashChangesNothing", inPlace := ["internal/bytealg.IndexByteString", "internal/bytealg.IndexString"], unfollowed := true, recurses := true, named := ["internal/bytealg.MaxLen"], apart := false }
def FnTopicMatchesDoubledHashChangesNothingSaid : Prop := fnTopicMatchesDoubledHashChangesNothingRow.holds Try.pinned (OpenSpec.ofChange fnTopicMatchesDoubledHashChangesNothingSpec)

/-- ITS FALSE NEIGHBOUR: 'it returns false'. Refute it at one input. -/
def fnTopicMatchesDoubledHashChangesNothingWrong : ChangeSpec := { name := "fnTopicMatchesDoubledHashChangesNothing", fn := fun _ => fun
  | [d1, d2, d3, d4, d5, d6, d7] => { results := [.lit (.bool false)], args := [d1, d2, d3, d4, d5, d6, d7] }
  | _ => none }
def FnTopicMatchesDoubledHashChangesNothingWrongFalsely : Prop := fnTopicMatchesDoubledHashChangesNothingRow.holds Try.pinned (OpenSpec.ofChange fnTopicMatchesDoubledHashChangesNothingWrong)

/-- 'zzlaws_root_b1.FnFixedEndsAgreesWithWordSpec': WHATEVER THE INPUT: true; the input reads as it did. -/
def fnFixedEndsAgreesWithWordSpecSpec : ChangeSpec := { name := "fnFixedEndsAgreesWithWordSpec", fn := fun _ => fun
  | [d1, d2, d3] => { results := [.lit (.bool true)], args := [d1, d2, d3] }
  | _ => none }
def fnFixedEndsAgreesWithWordSpecRow : OpenClaim := { program := "qxb6601295a", sum := "f5303f48ddade1d59b29578a595652e63e4ba0db8d457ff98173eaae270be620", func := "example.com/grant/grant/zzlaws_root_b1.FnFixedEndsAgreesWithWordSpec", spec := "fnFixedEndsAgreesWithWordSpec", inPlace := ["internal/bytealg.IndexByteString"], apart := false }
def FnFixedEndsAgreesWithWordSpecSaid : Prop := fnFixedEndsAgreesWithWordSpecRow.holds Try.pinned (OpenSpec.ofChange fnFixedEndsAgreesWithWordSpecSpec)

/-- ITS FALSE NEIGHBOUR: 'it returns false'. Refute it at one input. -/
def fnFixedEndsAgreesWithWordSpecWrong : ChangeSpec := { name := "fnFixedEndsAgreesWithWordSpec", fn := fun _ => fun
  | [d1, d2, d3] => { results := [.lit (.bool false)], args := [d1, d2, d3] }
  | _ => none }
def FnFixedEndsAgreesWithWordSpecWrongFalsely : Prop := fnFixedEndsAgreesWithWordSpecRow.holds Try.pinned (OpenSpec.ofChange fnFixedEndsAgreesWithWordSpecWrong)

/-- 'zzlaws_root_b1.FnFixedEndsBoundEveryMatchedKey': WHATEVER THE INPUT: true; the input reads as it did. -/
def fnFixedEndsBoundEveryMatchedKeySpec : ChangeSpec := { name := "fnFixedEndsBoundEveryMatchedKey", fn := fun _ => fun
  | [d1, d2] => { results := [.lit (.bool true)], args := [d1, d2] }
  | _ => none }
def fnFixedEndsBoundEveryMatchedKeyRow : OpenClaim := { program := "qxb6601295a", sum := "f5303f48ddade1d59b29578a595652e63e4ba0db8d457ff98173eaae270be620", func := "example.com/grant/grant/zzlaws_root_b1.FnFixedEndsBoundEveryMatchedKey", spec := "fnFixedEndsBoundEveryMatchedKey", inPlace := ["internal/bytealg.IndexByteString", "internal/bytealg.IndexString"], unfollowed := true, recurses := true, named := ["internal/bytealg.MaxLen"], apart := false }
def FnFixedEndsBoundEveryMatchedKeySaid : Prop := fnFixedEndsBoundEveryMatchedKeyRow.holds Try.pinned (OpenSpec.ofChange fnFixedEndsBoundEveryMatchedKeySpec)

/-- ITS FALSE NEIGHBOUR: 'it returns false'. Refute it at one input. -/
def fnFixedEndsBoundEveryMatchedKeyWrong : ChangeSpec := { name := "fnFixedEndsBoundEveryMatchedKey", fn := fun _ => fun
  | [d1, d2] => { results := [.lit (.bool false)], args := [d1, d2] }
  | _ => none }
def FnFixedEndsBoundEveryMatchedKeyWrongFalsely : Prop := fnFixedEndsBoundEveryMatchedKeyRow.holds Try.pinned (OpenSpec.ofChange fnFixedEndsBoundEveryMatchedKeyWrong)

/-- 'zzlaws_root_b1.FnGroupSetAddReportsFirstArrival': WHATEVER THE INPUT: true; the input reads as it did. -/
def fnGroupSetAddReportsFirstArrivalSpec : ChangeSpec := { name := "fnGroupSetAddReportsFirstArrival", fn := fun _ => fun
  | [d] => { results := [.lit (.bool true)], args := [d] }
  | _ => none }
def fnGroupSetAddReportsFirstArrivalRow : OpenClaim := { program := "qxb6601295a", sum := "f5303f48ddade1d59b29578a595652e63e4ba0db8d457ff98173eaae270be620", func := "example.com/grant/grant/zzlaws_root_b1.FnGroupSetAddReportsFirstArrival", spec := "fnGroupSetAddReportsFirstArrival", apart := false }
def FnGroupSetAddReportsFirstArrivalSaid : Prop := fnGroupSetAddReportsFirstArrivalRow.holds Try.pinned (OpenSpec.ofChange fnGroupSetAddReportsFirstArrivalSpec)

/-- ITS FALSE NEIGHBOUR: 'it returns false'. Refute it at one input. -/
def fnGroupSetAddReportsFirstArrivalWrong : ChangeSpec := { name := "fnGroupSetAddReportsFirstArrival", fn := fun _ => fun
  | [d] => { results := [.lit (.bool false)], args := [d] }
  | _ => none }
def FnGroupSetAddReportsFirstArrivalWrongFalsely : Prop := fnGroupSetAddReportsFirstArrivalRow.holds Try.pinned (OpenSpec.ofChange fnGroupSetAddReportsFirstArrivalWrong)

/-- 'zzlaws_root_b1.FnGroupSetRemembersAndCountsPlaces': WHATEVER THE INPUT: true; the input reads as it did. -/
def fnGroupSetRemembersAndCountsPlacesSpec : ChangeSpec := { name := "fnGroupSetRemembersAndCountsPlaces", fn := fun _ => fun
  | [d1, d2] => { results := [.lit (.bool true)], args := [d1, d2] }
  | _ => none }
def fnGroupSetRemembersAndCountsPlacesRow : OpenClaim := { program := "qxb6601295a", sum := "f5303f48ddade1d59b29578a595652e63e4ba0db8d457ff98173eaae270be620", func := "example.com/grant/grant/zzlaws_root_b1.FnGroupSetRemembersAndCountsPlaces", spec := "fnGroupSetRemembersAndCountsPlaces", apart := false }
def FnGroupSetRemembersAndCountsPlacesSaid : Prop := fnGroupSetRemembersAndCountsPlacesRow.holds Try.pinned (OpenSpec.ofChange fnGroupSetRemembersAndCountsPlacesSpec)

/-- ITS FALSE NEIGHBOUR: 'it returns false'. Refute it at one input. -/
def fnGroupSetRemembersAndCountsPlacesWrong : ChangeSpec := { name := "fnGroupSetRemembersAndCountsPlaces", fn := fun _ => fun
  | [d1, d2] => { results := [.lit (.bool false)], args := [d1, d2] }
  | _ => none }
def FnGroupSetRemembersAndCountsPlacesWrongFalsely : Prop := fnGroupSetRemembersAndCountsPlacesRow.holds Try.pinned (OpenSpec.ofChange fnGroupSetRemembersAndCountsPlacesWrong)

end Rows
end Go.Proofs.Qxb6601295a
