/-
  No cell of these rows narrows 'for every input' (looked for: loops, veiled, ifaces, maps, wideKeys, modest, calm, conditions, laid).
  DERIVED. THE GIVEN ROWS OF THIS SEAT. 23 by the template 'for every input the law returns true; each argument reads behind the call as it read before'; 0 by the template 'total and deterministic' (their statements: YtdamfannmlncnaaTotals.lean).
  GIVEN WITH THE SEED: the statements are not yours to turn. If you find one false, say at which input.
  Laid BY PROGRAM, IN A SANDBOX (cutbox-rows.mjs): the forced cells as the released guide's own fill.sh prints them over the translation bbca826bd1c7c199… (all of the seat's roots in one cut). By AI agents, Wed Nov 11 2026. No macro, syntax, notation, axiom, sorry.
-/
import Derived.Test.YtdamfannmlncnaaChecked
import GoSem.Claim
import GoSem.ClaimJoined
import GoSem.ClaimMapViews
import Derived.JoinedTies
import Derived.KernelRfl
namespace Go.Proofs.Ytdamfannmlncnaa
/- THE CELL 'sum', in the pinned program and in every row, IS THE sha256 OF THE DUMP (.gsa) THAT YtdamfannmlncnaaProg.lean LOADS. Nothing in Lean hashes anything: it is a label: what it is worth is what the hold of that sum in a sandbox is worth. -/
noncomputable def Try.pinned : Pinned := { name := "ytdamfannmlncnaa", sum := "bbca826bd1c7c1995f2ef3a6d602d032d728aef0180cb6ccc753068a9dbe1036", checked := Try.checked }
namespace Rows
def none {H : Type} : Left H := { results := [], args := [] }

/-- 'laws.FnPutGet': WHATEVER THE INPUT: true; the input reads as it did. -/
def fnPutGetSpec : ChangeSpec := { name := "fnPutGet", fn := fun _ => fun
  | [d1, d2, d3, d4, d5] => { results := [.lit (.bool true)], args := [d1, d2, d3, d4, d5] }
  | _ => none }
def fnPutGetRow : OpenClaim := { program := "ytdamfannmlncnaa", sum := "bbca826bd1c7c1995f2ef3a6d602d032d728aef0180cb6ccc753068a9dbe1036", func := "loop.example/pub-treemaps/laws.FnPutGet", spec := "fnPutGet", unfollowed := true, recurses := true, apart := false }
def FnPutGetSaid : Prop := fnPutGetRow.holds Try.pinned (OpenSpec.ofChange fnPutGetSpec)

/-- ITS FALSE NEIGHBOUR: 'it returns false'. Refute it at one input. -/
def fnPutGetWrong : ChangeSpec := { name := "fnPutGet", fn := fun _ => fun
  | [d1, d2, d3, d4, d5] => { results := [.lit (.bool false)], args := [d1, d2, d3, d4, d5] }
  | _ => none }
def FnPutGetWrongFalsely : Prop := fnPutGetRow.holds Try.pinned (OpenSpec.ofChange fnPutGetWrong)

/-- 'laws.FnCleared': WHATEVER THE INPUT: true; the input reads as it did. -/
def fnClearedSpec : ChangeSpec := { name := "fnCleared", fn := fun _ => fun
  | [d1, d2, d3] => { results := [.lit (.bool true)], args := [d1, d2, d3] }
  | _ => none }
def fnClearedRow : OpenClaim := { program := "ytdamfannmlncnaa", sum := "bbca826bd1c7c1995f2ef3a6d602d032d728aef0180cb6ccc753068a9dbe1036", func := "loop.example/pub-treemaps/laws.FnCleared", spec := "fnCleared", unfollowed := true, recurses := true, apart := false }
def FnClearedSaid : Prop := fnClearedRow.holds Try.pinned (OpenSpec.ofChange fnClearedSpec)

/-- ITS FALSE NEIGHBOUR: 'it returns false'. Refute it at one input. -/
def fnClearedWrong : ChangeSpec := { name := "fnCleared", fn := fun _ => fun
  | [d1, d2, d3] => { results := [.lit (.bool false)], args := [d1, d2, d3] }
  | _ => none }
def FnClearedWrongFalsely : Prop := fnClearedRow.holds Try.pinned (OpenSpec.ofChange fnClearedWrong)

/-- 'laws.FnBack': WHATEVER THE INPUT: true; the input reads as it did. -/
def fnBackSpec : ChangeSpec := { name := "fnBack", fn := fun _ => fun
  | [d1, d2] => { results := [.lit (.bool true)], args := [d1, d2] }
  | _ => none }
def fnBackRow : OpenClaim := { program := "ytdamfannmlncnaa", sum := "bbca826bd1c7c1995f2ef3a6d602d032d728aef0180cb6ccc753068a9dbe1036", func := "loop.example/pub-treemaps/laws.FnBack", spec := "fnBack", unfollowed := true, recurses := true, apart := false }
def FnBackSaid : Prop := fnBackRow.holds Try.pinned (OpenSpec.ofChange fnBackSpec)

/-- ITS FALSE NEIGHBOUR: 'it returns false'. Refute it at one input. -/
def fnBackWrong : ChangeSpec := { name := "fnBack", fn := fun _ => fun
  | [d1, d2] => { results := [.lit (.bool false)], args := [d1, d2] }
  | _ => none }
def FnBackWrongFalsely : Prop := fnBackRow.holds Try.pinned (OpenSpec.ofChange fnBackWrong)

/-- 'laws.FnCommute': WHATEVER THE INPUT: true; the input reads as it did. -/
def fnCommuteSpec : ChangeSpec := { name := "fnCommute", fn := fun _ => fun
  | [d1, d2, d3, d4] => { results := [.lit (.bool true)], args := [d1, d2, d3, d4] }
  | _ => none }
def fnCommuteRow : OpenClaim := { program := "ytdamfannmlncnaa", sum := "bbca826bd1c7c1995f2ef3a6d602d032d728aef0180cb6ccc753068a9dbe1036", func := "loop.example/pub-treemaps/laws.FnCommute", spec := "fnCommute", unfollowed := true, recurses := true, apart := false }
def FnCommuteSaid : Prop := fnCommuteRow.holds Try.pinned (OpenSpec.ofChange fnCommuteSpec)

/-- ITS FALSE NEIGHBOUR: 'it returns false'. Refute it at one input. -/
def fnCommuteWrong : ChangeSpec := { name := "fnCommute", fn := fun _ => fun
  | [d1, d2, d3, d4] => { results := [.lit (.bool false)], args := [d1, d2, d3, d4] }
  | _ => none }
def FnCommuteWrongFalsely : Prop := fnCommuteRow.holds Try.pinned (OpenSpec.ofChange fnCommuteWrong)

/-- 'laws.FnExactState': WHATEVER THE INPUT: true; the input reads as it did. -/
def fnExactStateSpec : ChangeSpec := { name := "fnExactState", fn := fun _ => fun
  | [d1, d2] => { results := [.lit (.bool true)], args := [d1, d2] }
  | _ => none }
def fnExactStateRow : OpenClaim := { program := "ytdamfannmlncnaa", sum := "bbca826bd1c7c1995f2ef3a6d602d032d728aef0180cb6ccc753068a9dbe1036", func := "loop.example/pub-treemaps/laws.FnExactState", spec := "fnExactState", unfollowed := true, recurses := true, apart := false }
def FnExactStateSaid : Prop := fnExactStateRow.holds Try.pinned (OpenSpec.ofChange fnExactStateSpec)

/-- ITS FALSE NEIGHBOUR: 'it returns false'. Refute it at one input. -/
def fnExactStateWrong : ChangeSpec := { name := "fnExactState", fn := fun _ => fun
  | [d1, d2] => { results := [.lit (.bool false)], args := [d1, d2] }
  | _ => none }
def FnExactStateWrongFalsely : Prop := fnExactStateRow.holds Try.pinned (OpenSpec.ofChange fnExactStateWrong)

/-- 'laws.FnExactWalk': WHATEVER THE INPUT: true; the input reads as it did. -/
def fnExactWalkSpec : ChangeSpec := { name := "fnExactWalk", fn := fun _ => fun
  | [d1, d2, d3] => { results := [.lit (.bool true)], args := [d1, d2, d3] }
  | _ => none }
def fnExactWalkRow : OpenClaim := { program := "ytdamfannmlncnaa", sum := "bbca826bd1c7c1995f2ef3a6d602d032d728aef0180cb6ccc753068a9dbe1036", func := "loop.example/pub-treemaps/laws.FnExactWalk", spec := "fnExactWalk", unfollowed := true, recurses := true, apart := false }
def FnExactWalkSaid : Prop := fnExactWalkRow.holds Try.pinned (OpenSpec.ofChange fnExactWalkSpec)

/-- ITS FALSE NEIGHBOUR: 'it returns false'. Refute it at one input. -/
def fnExactWalkWrong : ChangeSpec := { name := "fnExactWalk", fn := fun _ => fun
  | [d1, d2, d3] => { results := [.lit (.bool false)], args := [d1, d2, d3] }
  | _ => none }
def FnExactWalkWrongFalsely : Prop := fnExactWalkRow.holds Try.pinned (OpenSpec.ofChange fnExactWalkWrong)

/-- 'laws.FnStateRest': WHATEVER THE INPUT: true; the input reads as it did. -/
def fnStateRestSpec : ChangeSpec := { name := "fnStateRest", fn := fun _ => fun
  | [d1, d2] => { results := [.lit (.bool true)], args := [d1, d2] }
  | _ => none }
def fnStateRestRow : OpenClaim := { program := "ytdamfannmlncnaa", sum := "bbca826bd1c7c1995f2ef3a6d602d032d728aef0180cb6ccc753068a9dbe1036", func := "loop.example/pub-treemaps/laws.FnStateRest", spec := "fnStateRest", unfollowed := true, recurses := true, apart := false }
def FnStateRestSaid : Prop := fnStateRestRow.holds Try.pinned (OpenSpec.ofChange fnStateRestSpec)

/-- ITS FALSE NEIGHBOUR: 'it returns false'. Refute it at one input. -/
def fnStateRestWrong : ChangeSpec := { name := "fnStateRest", fn := fun _ => fun
  | [d1, d2] => { results := [.lit (.bool false)], args := [d1, d2] }
  | _ => none }
def FnStateRestWrongFalsely : Prop := fnStateRestRow.holds Try.pinned (OpenSpec.ofChange fnStateRestWrong)

/-- 'laws.FnExactMin': WHATEVER THE INPUT: true; the input reads as it did. -/
def fnExactMinSpec : ChangeSpec := { name := "fnExactMin", fn := fun _ => fun
  | [d1, d2] => { results := [.lit (.bool true)], args := [d1, d2] }
  | _ => none }
def fnExactMinRow : OpenClaim := { program := "ytdamfannmlncnaa", sum := "bbca826bd1c7c1995f2ef3a6d602d032d728aef0180cb6ccc753068a9dbe1036", func := "loop.example/pub-treemaps/laws.FnExactMin", spec := "fnExactMin", unfollowed := true, recurses := true, apart := false }
def FnExactMinSaid : Prop := fnExactMinRow.holds Try.pinned (OpenSpec.ofChange fnExactMinSpec)

/-- ITS FALSE NEIGHBOUR: 'it returns false'. Refute it at one input. -/
def fnExactMinWrong : ChangeSpec := { name := "fnExactMin", fn := fun _ => fun
  | [d1, d2] => { results := [.lit (.bool false)], args := [d1, d2] }
  | _ => none }
def FnExactMinWrongFalsely : Prop := fnExactMinRow.holds Try.pinned (OpenSpec.ofChange fnExactMinWrong)

/-- 'laws.FnForward': WHATEVER THE INPUT: true; the input reads as it did. -/
def fnForwardSpec : ChangeSpec := { name := "fnForward", fn := fun _ => fun
  | [d1, d2] => { results := [.lit (.bool true)], args := [d1, d2] }
  | _ => none }
def fnForwardRow : OpenClaim := { program := "ytdamfannmlncnaa", sum := "bbca826bd1c7c1995f2ef3a6d602d032d728aef0180cb6ccc753068a9dbe1036", func := "loop.example/pub-treemaps/laws.FnForward", spec := "fnForward", unfollowed := true, recurses := true, apart := false }
def FnForwardSaid : Prop := fnForwardRow.holds Try.pinned (OpenSpec.ofChange fnForwardSpec)

/-- ITS FALSE NEIGHBOUR: 'it returns false'. Refute it at one input. -/
def fnForwardWrong : ChangeSpec := { name := "fnForward", fn := fun _ => fun
  | [d1, d2] => { results := [.lit (.bool false)], args := [d1, d2] }
  | _ => none }
def FnForwardWrongFalsely : Prop := fnForwardRow.holds Try.pinned (OpenSpec.ofChange fnForwardWrong)

/-- 'laws.FnExactGet': WHATEVER THE INPUT: true; the input reads as it did. -/
def fnExactGetSpec : ChangeSpec := { name := "fnExactGet", fn := fun _ => fun
  | [d1, d2, d3] => { results := [.lit (.bool true)], args := [d1, d2, d3] }
  | _ => none }
def fnExactGetRow : OpenClaim := { program := "ytdamfannmlncnaa", sum := "bbca826bd1c7c1995f2ef3a6d602d032d728aef0180cb6ccc753068a9dbe1036", func := "loop.example/pub-treemaps/laws.FnExactGet", spec := "fnExactGet", unfollowed := true, recurses := true, apart := false }
def FnExactGetSaid : Prop := fnExactGetRow.holds Try.pinned (OpenSpec.ofChange fnExactGetSpec)

/-- ITS FALSE NEIGHBOUR: 'it returns false'. Refute it at one input. -/
def fnExactGetWrong : ChangeSpec := { name := "fnExactGet", fn := fun _ => fun
  | [d1, d2, d3] => { results := [.lit (.bool false)], args := [d1, d2, d3] }
  | _ => none }
def FnExactGetWrongFalsely : Prop := fnExactGetRow.holds Try.pinned (OpenSpec.ofChange fnExactGetWrong)

/-- 'laws.FnRemoveGet': WHATEVER THE INPUT: true; the input reads as it did. -/
def fnRemoveGetSpec : ChangeSpec := { name := "fnRemoveGet", fn := fun _ => fun
  | [d1, d2, d3, d4] => { results := [.lit (.bool true)], args := [d1, d2, d3, d4] }
  | _ => none }
def fnRemoveGetRow : OpenClaim := { program := "ytdamfannmlncnaa", sum := "bbca826bd1c7c1995f2ef3a6d602d032d728aef0180cb6ccc753068a9dbe1036", func := "loop.example/pub-treemaps/laws.FnRemoveGet", spec := "fnRemoveGet", unfollowed := true, recurses := true, apart := false }
def FnRemoveGetSaid : Prop := fnRemoveGetRow.holds Try.pinned (OpenSpec.ofChange fnRemoveGetSpec)

/-- ITS FALSE NEIGHBOUR: 'it returns false'. Refute it at one input. -/
def fnRemoveGetWrong : ChangeSpec := { name := "fnRemoveGet", fn := fun _ => fun
  | [d1, d2, d3, d4] => { results := [.lit (.bool false)], args := [d1, d2, d3, d4] }
  | _ => none }
def FnRemoveGetWrongFalsely : Prop := fnRemoveGetRow.holds Try.pinned (OpenSpec.ofChange fnRemoveGetWrong)

/-- 'laws.FnExactMax': WHATEVER THE INPUT: true; the input reads as it did. -/
def fnExactMaxSpec : ChangeSpec := { name := "fnExactMax", fn := fun _ => fun
  | [d1, d2] => { results := [.lit (.bool true)], args := [d1, d2] }
  | _ => none }
def fnExactMaxRow : OpenClaim := { program := "ytdamfannmlncnaa", sum := "bbca826bd1c7c1995f2ef3a6d602d032d728aef0180cb6ccc753068a9dbe1036", func := "loop.example/pub-treemaps/laws.FnExactMax", spec := "fnExactMax", unfollowed := true, recurses := true, apart := false }
def FnExactMaxSaid : Prop := fnExactMaxRow.holds Try.pinned (OpenSpec.ofChange fnExactMaxSpec)

/-- ITS FALSE NEIGHBOUR: 'it returns false'. Refute it at one input. -/
def fnExactMaxWrong : ChangeSpec := { name := "fnExactMax", fn := fun _ => fun
  | [d1, d2] => { results := [.lit (.bool false)], args := [d1, d2] }
  | _ => none }
def FnExactMaxWrongFalsely : Prop := fnExactMaxRow.holds Try.pinned (OpenSpec.ofChange fnExactMaxWrong)

/-- 'laws.FnExactMap': WHATEVER THE INPUT: true; the input reads as it did. -/
def fnExactMapSpec : ChangeSpec := { name := "fnExactMap", fn := fun _ => fun
  | [d1, d2, d3] => { results := [.lit (.bool true)], args := [d1, d2, d3] }
  | _ => none }
def fnExactMapRow : OpenClaim := { program := "ytdamfannmlncnaa", sum := "bbca826bd1c7c1995f2ef3a6d602d032d728aef0180cb6ccc753068a9dbe1036", func := "loop.example/pub-treemaps/laws.FnExactMap", spec := "fnExactMap", unfollowed := true, recurses := true, apart := false }
def FnExactMapSaid : Prop := fnExactMapRow.holds Try.pinned (OpenSpec.ofChange fnExactMapSpec)

/-- ITS FALSE NEIGHBOUR: 'it returns false'. Refute it at one input. -/
def fnExactMapWrong : ChangeSpec := { name := "fnExactMap", fn := fun _ => fun
  | [d1, d2, d3] => { results := [.lit (.bool false)], args := [d1, d2, d3] }
  | _ => none }
def FnExactMapWrongFalsely : Prop := fnExactMapRow.holds Try.pinned (OpenSpec.ofChange fnExactMapWrong)

/-- 'laws.FnExactEach': WHATEVER THE INPUT: true; the input reads as it did. -/
def fnExactEachSpec : ChangeSpec := { name := "fnExactEach", fn := fun _ => fun
  | [d1, d2] => { results := [.lit (.bool true)], args := [d1, d2] }
  | _ => none }
def fnExactEachRow : OpenClaim := { program := "ytdamfannmlncnaa", sum := "bbca826bd1c7c1995f2ef3a6d602d032d728aef0180cb6ccc753068a9dbe1036", func := "loop.example/pub-treemaps/laws.FnExactEach", spec := "fnExactEach", unfollowed := true, recurses := true, apart := false }
def FnExactEachSaid : Prop := fnExactEachRow.holds Try.pinned (OpenSpec.ofChange fnExactEachSpec)

/-- ITS FALSE NEIGHBOUR: 'it returns false'. Refute it at one input. -/
def fnExactEachWrong : ChangeSpec := { name := "fnExactEach", fn := fun _ => fun
  | [d1, d2] => { results := [.lit (.bool false)], args := [d1, d2] }
  | _ => none }
def FnExactEachWrongFalsely : Prop := fnExactEachRow.holds Try.pinned (OpenSpec.ofChange fnExactEachWrong)

/-- 'laws.FnOrdered': WHATEVER THE INPUT: true; the input reads as it did. -/
def fnOrderedSpec : ChangeSpec := { name := "fnOrdered", fn := fun _ => fun
  | [d1, d2] => { results := [.lit (.bool true)], args := [d1, d2] }
  | _ => none }
def fnOrderedRow : OpenClaim := { program := "ytdamfannmlncnaa", sum := "bbca826bd1c7c1995f2ef3a6d602d032d728aef0180cb6ccc753068a9dbe1036", func := "loop.example/pub-treemaps/laws.FnOrdered", spec := "fnOrdered", unfollowed := true, recurses := true, apart := false }
def FnOrderedSaid : Prop := fnOrderedRow.holds Try.pinned (OpenSpec.ofChange fnOrderedSpec)

/-- ITS FALSE NEIGHBOUR: 'it returns false'. Refute it at one input. -/
def fnOrderedWrong : ChangeSpec := { name := "fnOrdered", fn := fun _ => fun
  | [d1, d2] => { results := [.lit (.bool false)], args := [d1, d2] }
  | _ => none }
def FnOrderedWrongFalsely : Prop := fnOrderedRow.holds Try.pinned (OpenSpec.ofChange fnOrderedWrong)

/-- 'laws.FnTurned': WHATEVER THE INPUT: true; the input reads as it did. -/
def fnTurnedSpec : ChangeSpec := { name := "fnTurned", fn := fun _ => fun
  | [d] => { results := [.lit (.bool true)], args := [d] }
  | _ => none }
def fnTurnedRow : OpenClaim := { program := "ytdamfannmlncnaa", sum := "bbca826bd1c7c1995f2ef3a6d602d032d728aef0180cb6ccc753068a9dbe1036", func := "loop.example/pub-treemaps/laws.FnTurned", spec := "fnTurned", unfollowed := true, recurses := true, apart := false }
def FnTurnedSaid : Prop := fnTurnedRow.holds Try.pinned (OpenSpec.ofChange fnTurnedSpec)

/-- ITS FALSE NEIGHBOUR: 'it returns false'. Refute it at one input. -/
def fnTurnedWrong : ChangeSpec := { name := "fnTurned", fn := fun _ => fun
  | [d] => { results := [.lit (.bool false)], args := [d] }
  | _ => none }
def FnTurnedWrongFalsely : Prop := fnTurnedRow.holds Try.pinned (OpenSpec.ofChange fnTurnedWrong)

/-- 'laws.FnExactCeiling': WHATEVER THE INPUT: true; the input reads as it did. -/
def fnExactCeilingSpec : ChangeSpec := { name := "fnExactCeiling", fn := fun _ => fun
  | [d1, d2, d3] => { results := [.lit (.bool true)], args := [d1, d2, d3] }
  | _ => none }
def fnExactCeilingRow : OpenClaim := { program := "ytdamfannmlncnaa", sum := "bbca826bd1c7c1995f2ef3a6d602d032d728aef0180cb6ccc753068a9dbe1036", func := "loop.example/pub-treemaps/laws.FnExactCeiling", spec := "fnExactCeiling", unfollowed := true, recurses := true, apart := false }
def FnExactCeilingSaid : Prop := fnExactCeilingRow.holds Try.pinned (OpenSpec.ofChange fnExactCeilingSpec)

/-- ITS FALSE NEIGHBOUR: 'it returns false'. Refute it at one input. -/
def fnExactCeilingWrong : ChangeSpec := { name := "fnExactCeiling", fn := fun _ => fun
  | [d1, d2, d3] => { results := [.lit (.bool false)], args := [d1, d2, d3] }
  | _ => none }
def FnExactCeilingWrongFalsely : Prop := fnExactCeilingRow.holds Try.pinned (OpenSpec.ofChange fnExactCeilingWrong)

/-- 'laws.FnExactFloor': WHATEVER THE INPUT: true; the input reads as it did. -/
def fnExactFloorSpec : ChangeSpec := { name := "fnExactFloor", fn := fun _ => fun
  | [d1, d2, d3] => { results := [.lit (.bool true)], args := [d1, d2, d3] }
  | _ => none }
def fnExactFloorRow : OpenClaim := { program := "ytdamfannmlncnaa", sum := "bbca826bd1c7c1995f2ef3a6d602d032d728aef0180cb6ccc753068a9dbe1036", func := "loop.example/pub-treemaps/laws.FnExactFloor", spec := "fnExactFloor", unfollowed := true, recurses := true, apart := false }
def FnExactFloorSaid : Prop := fnExactFloorRow.holds Try.pinned (OpenSpec.ofChange fnExactFloorSpec)

/-- ITS FALSE NEIGHBOUR: 'it returns false'. Refute it at one input. -/
def fnExactFloorWrong : ChangeSpec := { name := "fnExactFloor", fn := fun _ => fun
  | [d1, d2, d3] => { results := [.lit (.bool false)], args := [d1, d2, d3] }
  | _ => none }
def FnExactFloorWrongFalsely : Prop := fnExactFloorRow.holds Try.pinned (OpenSpec.ofChange fnExactFloorWrong)

/-- 'laws.FnExactFind': WHATEVER THE INPUT: true; the input reads as it did. -/
def fnExactFindSpec : ChangeSpec := { name := "fnExactFind", fn := fun _ => fun
  | [d1, d2, d3] => { results := [.lit (.bool true)], args := [d1, d2, d3] }
  | _ => none }
def fnExactFindRow : OpenClaim := { program := "ytdamfannmlncnaa", sum := "bbca826bd1c7c1995f2ef3a6d602d032d728aef0180cb6ccc753068a9dbe1036", func := "loop.example/pub-treemaps/laws.FnExactFind", spec := "fnExactFind", unfollowed := true, recurses := true, apart := false }
def FnExactFindSaid : Prop := fnExactFindRow.holds Try.pinned (OpenSpec.ofChange fnExactFindSpec)

/-- ITS FALSE NEIGHBOUR: 'it returns false'. Refute it at one input. -/
def fnExactFindWrong : ChangeSpec := { name := "fnExactFind", fn := fun _ => fun
  | [d1, d2, d3] => { results := [.lit (.bool false)], args := [d1, d2, d3] }
  | _ => none }
def FnExactFindWrongFalsely : Prop := fnExactFindRow.holds Try.pinned (OpenSpec.ofChange fnExactFindWrong)

/-- 'laws.FnExactSelect': WHATEVER THE INPUT: true; the input reads as it did. -/
def fnExactSelectSpec : ChangeSpec := { name := "fnExactSelect", fn := fun _ => fun
  | [d1, d2, d3, d4] => { results := [.lit (.bool true)], args := [d1, d2, d3, d4] }
  | _ => none }
def fnExactSelectRow : OpenClaim := { program := "ytdamfannmlncnaa", sum := "bbca826bd1c7c1995f2ef3a6d602d032d728aef0180cb6ccc753068a9dbe1036", func := "loop.example/pub-treemaps/laws.FnExactSelect", spec := "fnExactSelect", unfollowed := true, recurses := true, apart := false }
def FnExactSelectSaid : Prop := fnExactSelectRow.holds Try.pinned (OpenSpec.ofChange fnExactSelectSpec)

/-- ITS FALSE NEIGHBOUR: 'it returns false'. Refute it at one input. -/
def fnExactSelectWrong : ChangeSpec := { name := "fnExactSelect", fn := fun _ => fun
  | [d1, d2, d3, d4] => { results := [.lit (.bool false)], args := [d1, d2, d3, d4] }
  | _ => none }
def FnExactSelectWrongFalsely : Prop := fnExactSelectRow.holds Try.pinned (OpenSpec.ofChange fnExactSelectWrong)

/-- 'laws.FnParts': WHATEVER THE INPUT: true; the input reads as it did. -/
def fnPartsSpec : ChangeSpec := { name := "fnParts", fn := fun _ => fun
  | [d1, d2, d3] => { results := [.lit (.bool true)], args := [d1, d2, d3] }
  | _ => none }
def fnPartsRow : OpenClaim := { program := "ytdamfannmlncnaa", sum := "bbca826bd1c7c1995f2ef3a6d602d032d728aef0180cb6ccc753068a9dbe1036", func := "loop.example/pub-treemaps/laws.FnParts", spec := "fnParts", unfollowed := true, recurses := true, apart := false }
def FnPartsSaid : Prop := fnPartsRow.holds Try.pinned (OpenSpec.ofChange fnPartsSpec)

/-- ITS FALSE NEIGHBOUR: 'it returns false'. Refute it at one input. -/
def fnPartsWrong : ChangeSpec := { name := "fnParts", fn := fun _ => fun
  | [d1, d2, d3] => { results := [.lit (.bool false)], args := [d1, d2, d3] }
  | _ => none }
def FnPartsWrongFalsely : Prop := fnPartsRow.holds Try.pinned (OpenSpec.ofChange fnPartsWrong)

/-- 'laws.FnExactAll': WHATEVER THE INPUT: true; the input reads as it did. -/
def fnExactAllSpec : ChangeSpec := { name := "fnExactAll", fn := fun _ => fun
  | [d1, d2, d3] => { results := [.lit (.bool true)], args := [d1, d2, d3] }
  | _ => none }
def fnExactAllRow : OpenClaim := { program := "ytdamfannmlncnaa", sum := "bbca826bd1c7c1995f2ef3a6d602d032d728aef0180cb6ccc753068a9dbe1036", func := "loop.example/pub-treemaps/laws.FnExactAll", spec := "fnExactAll", unfollowed := true, recurses := true, apart := false }
def FnExactAllSaid : Prop := fnExactAllRow.holds Try.pinned (OpenSpec.ofChange fnExactAllSpec)

/-- ITS FALSE NEIGHBOUR: 'it returns false'. Refute it at one input. -/
def fnExactAllWrong : ChangeSpec := { name := "fnExactAll", fn := fun _ => fun
  | [d1, d2, d3] => { results := [.lit (.bool false)], args := [d1, d2, d3] }
  | _ => none }
def FnExactAllWrongFalsely : Prop := fnExactAllRow.holds Try.pinned (OpenSpec.ofChange fnExactAllWrong)

/-- 'laws.FnBetween': WHATEVER THE INPUT: true; the input reads as it did. -/
def fnBetweenSpec : ChangeSpec := { name := "fnBetween", fn := fun _ => fun
  | [d1, d2, d3] => { results := [.lit (.bool true)], args := [d1, d2, d3] }
  | _ => none }
def fnBetweenRow : OpenClaim := { program := "ytdamfannmlncnaa", sum := "bbca826bd1c7c1995f2ef3a6d602d032d728aef0180cb6ccc753068a9dbe1036", func := "loop.example/pub-treemaps/laws.FnBetween", spec := "fnBetween", unfollowed := true, recurses := true, apart := false }
def FnBetweenSaid : Prop := fnBetweenRow.holds Try.pinned (OpenSpec.ofChange fnBetweenSpec)

/-- ITS FALSE NEIGHBOUR: 'it returns false'. Refute it at one input. -/
def fnBetweenWrong : ChangeSpec := { name := "fnBetween", fn := fun _ => fun
  | [d1, d2, d3] => { results := [.lit (.bool false)], args := [d1, d2, d3] }
  | _ => none }
def FnBetweenWrongFalsely : Prop := fnBetweenRow.holds Try.pinned (OpenSpec.ofChange fnBetweenWrong)

/- THE SECOND FORM. 'bulk': how many values and letters a reading holds, each counted each time it is reached (what is shared counts as often as it is met; a slice's spare places count too). A statement '..UptoSaid' is the law's where the arguments, and the package variables that the reading takes, are together of bulk at most 1048576: NARROWER than '..Said'. Prove '..Said' where nothing that the law and all that it calls make is longer than what came in: it says more and counts as full. Else prove '..UptoSaid'. A law counts once. -/
mutual
def uptoBulk {H : Type} : DataW H → Nat
  | .lit (.string bytes) => bytes.length + 1
  | .lit _ => 1
  | .nil => 1
  | .ptr d => uptoBulk d + 1
  | .slice elems spare => uptoBulkAll elems + uptoBulkAll spare + 1
  | .agg parts => uptoBulkAll parts + 1
  | .iface _ d => uptoBulk d + 1
  | .map entries => uptoBulkEntries entries + 1
  | .held _ => 1
def uptoBulkAll {H : Type} : List (DataW H) → Nat
  | [] => 0
  | d :: r => uptoBulk d + uptoBulkAll r
def uptoBulkEntries {H : Type} : List (Lit × DataW H) → Nat
  | [] => 0
  | x :: r => uptoBulkEntry x + uptoBulkEntries r
def uptoBulkEntry {H : Type} : Lit × DataW H → Nat
  | (.string bytes, d) => bytes.length + uptoBulk d + 1
  | (_, d) => uptoBulk d + 1
 end
def uptoSmall : (H : Type) → List (DataW H) → Bool := fun _ ds => decide (uptoBulkAll ds ≤ 1048576)
def OpenSpec.upto (s : _root_.Go.ChangeSpec) : _root_.Go.OpenSpec := { _root_.Go.OpenSpec.ofChange s with cond := some uptoSmall }

/-- 'laws.FnPutGet', WHERE WHAT IT READS IS OF BULK AT MOST 1048576: true; the input reads as it did. -/
def fnPutGetUptoRow : OpenClaim := { program := "ytdamfannmlncnaa", sum := "bbca826bd1c7c1995f2ef3a6d602d032d728aef0180cb6ccc753068a9dbe1036", func := "loop.example/pub-treemaps/laws.FnPutGet", spec := "fnPutGet", unfollowed := true, recurses := true, apart := false, narrowed := true }
def FnPutGetUptoSaid : Prop := fnPutGetUptoRow.holds Try.pinned (OpenSpec.upto fnPutGetSpec)

/-- 'laws.FnCleared', WHERE WHAT IT READS IS OF BULK AT MOST 1048576: true; the input reads as it did. -/
def fnClearedUptoRow : OpenClaim := { program := "ytdamfannmlncnaa", sum := "bbca826bd1c7c1995f2ef3a6d602d032d728aef0180cb6ccc753068a9dbe1036", func := "loop.example/pub-treemaps/laws.FnCleared", spec := "fnCleared", unfollowed := true, recurses := true, apart := false, narrowed := true }
def FnClearedUptoSaid : Prop := fnClearedUptoRow.holds Try.pinned (OpenSpec.upto fnClearedSpec)

/-- 'laws.FnBack', WHERE WHAT IT READS IS OF BULK AT MOST 1048576: true; the input reads as it did. -/
def fnBackUptoRow : OpenClaim := { program := "ytdamfannmlncnaa", sum := "bbca826bd1c7c1995f2ef3a6d602d032d728aef0180cb6ccc753068a9dbe1036", func := "loop.example/pub-treemaps/laws.FnBack", spec := "fnBack", unfollowed := true, recurses := true, apart := false, narrowed := true }
def FnBackUptoSaid : Prop := fnBackUptoRow.holds Try.pinned (OpenSpec.upto fnBackSpec)

/-- 'laws.FnCommute', WHERE WHAT IT READS IS OF BULK AT MOST 1048576: true; the input reads as it did. -/
def fnCommuteUptoRow : OpenClaim := { program := "ytdamfannmlncnaa", sum := "bbca826bd1c7c1995f2ef3a6d602d032d728aef0180cb6ccc753068a9dbe1036", func := "loop.example/pub-treemaps/laws.FnCommute", spec := "fnCommute", unfollowed := true, recurses := true, apart := false, narrowed := true }
def FnCommuteUptoSaid : Prop := fnCommuteUptoRow.holds Try.pinned (OpenSpec.upto fnCommuteSpec)

/-- 'laws.FnExactState', WHERE WHAT IT READS IS OF BULK AT MOST 1048576: true; the input reads as it did. -/
def fnExactStateUptoRow : OpenClaim := { program := "ytdamfannmlncnaa", sum := "bbca826bd1c7c1995f2ef3a6d602d032d728aef0180cb6ccc753068a9dbe1036", func := "loop.example/pub-treemaps/laws.FnExactState", spec := "fnExactState", unfollowed := true, recurses := true, apart := false, narrowed := true }
def FnExactStateUptoSaid : Prop := fnExactStateUptoRow.holds Try.pinned (OpenSpec.upto fnExactStateSpec)

/-- 'laws.FnExactWalk', WHERE WHAT IT READS IS OF BULK AT MOST 1048576: true; the input reads as it did. -/
def fnExactWalkUptoRow : OpenClaim := { program := "ytdamfannmlncnaa", sum := "bbca826bd1c7c1995f2ef3a6d602d032d728aef0180cb6ccc753068a9dbe1036", func := "loop.example/pub-treemaps/laws.FnExactWalk", spec := "fnExactWalk", unfollowed := true, recurses := true, apart := false, narrowed := true }
def FnExactWalkUptoSaid : Prop := fnExactWalkUptoRow.holds Try.pinned (OpenSpec.upto fnExactWalkSpec)

/-- 'laws.FnStateRest', WHERE WHAT IT READS IS OF BULK AT MOST 1048576: true; the input reads as it did. -/
def fnStateRestUptoRow : OpenClaim := { program := "ytdamfannmlncnaa", sum := "bbca826bd1c7c1995f2ef3a6d602d032d728aef0180cb6ccc753068a9dbe1036", func := "loop.example/pub-treemaps/laws.FnStateRest", spec := "fnStateRest", unfollowed := true, recurses := true, apart := false, narrowed := true }
def FnStateRestUptoSaid : Prop := fnStateRestUptoRow.holds Try.pinned (OpenSpec.upto fnStateRestSpec)

/-- 'laws.FnExactMin', WHERE WHAT IT READS IS OF BULK AT MOST 1048576: true; the input reads as it did. -/
def fnExactMinUptoRow : OpenClaim := { program := "ytdamfannmlncnaa", sum := "bbca826bd1c7c1995f2ef3a6d602d032d728aef0180cb6ccc753068a9dbe1036", func := "loop.example/pub-treemaps/laws.FnExactMin", spec := "fnExactMin", unfollowed := true, recurses := true, apart := false, narrowed := true }
def FnExactMinUptoSaid : Prop := fnExactMinUptoRow.holds Try.pinned (OpenSpec.upto fnExactMinSpec)

/-- 'laws.FnForward', WHERE WHAT IT READS IS OF BULK AT MOST 1048576: true; the input reads as it did. -/
def fnForwardUptoRow : OpenClaim := { program := "ytdamfannmlncnaa", sum := "bbca826bd1c7c1995f2ef3a6d602d032d728aef0180cb6ccc753068a9dbe1036", func := "loop.example/pub-treemaps/laws.FnForward", spec := "fnForward", unfollowed := true, recurses := true, apart := false, narrowed := true }
def FnForwardUptoSaid : Prop := fnForwardUptoRow.holds Try.pinned (OpenSpec.upto fnForwardSpec)

/-- 'laws.FnExactGet', WHERE WHAT IT READS IS OF BULK AT MOST 1048576: true; the input reads as it did. -/
def fnExactGetUptoRow : OpenClaim := { program := "ytdamfannmlncnaa", sum := "bbca826bd1c7c1995f2ef3a6d602d032d728aef0180cb6ccc753068a9dbe1036", func := "loop.example/pub-treemaps/laws.FnExactGet", spec := "fnExactGet", unfollowed := true, recurses := true, apart := false, narrowed := true }
def FnExactGetUptoSaid : Prop := fnExactGetUptoRow.holds Try.pinned (OpenSpec.upto fnExactGetSpec)

/-- 'laws.FnRemoveGet', WHERE WHAT IT READS IS OF BULK AT MOST 1048576: true; the input reads as it did. -/
def fnRemoveGetUptoRow : OpenClaim := { program := "ytdamfannmlncnaa", sum := "bbca826bd1c7c1995f2ef3a6d602d032d728aef0180cb6ccc753068a9dbe1036", func := "loop.example/pub-treemaps/laws.FnRemoveGet", spec := "fnRemoveGet", unfollowed := true, recurses := true, apart := false, narrowed := true }
def FnRemoveGetUptoSaid : Prop := fnRemoveGetUptoRow.holds Try.pinned (OpenSpec.upto fnRemoveGetSpec)

/-- 'laws.FnExactMax', WHERE WHAT IT READS IS OF BULK AT MOST 1048576: true; the input reads as it did. -/
def fnExactMaxUptoRow : OpenClaim := { program := "ytdamfannmlncnaa", sum := "bbca826bd1c7c1995f2ef3a6d602d032d728aef0180cb6ccc753068a9dbe1036", func := "loop.example/pub-treemaps/laws.FnExactMax", spec := "fnExactMax", unfollowed := true, recurses := true, apart := false, narrowed := true }
def FnExactMaxUptoSaid : Prop := fnExactMaxUptoRow.holds Try.pinned (OpenSpec.upto fnExactMaxSpec)

/-- 'laws.FnExactMap', WHERE WHAT IT READS IS OF BULK AT MOST 1048576: true; the input reads as it did. -/
def fnExactMapUptoRow : OpenClaim := { program := "ytdamfannmlncnaa", sum := "bbca826bd1c7c1995f2ef3a6d602d032d728aef0180cb6ccc753068a9dbe1036", func := "loop.example/pub-treemaps/laws.FnExactMap", spec := "fnExactMap", unfollowed := true, recurses := true, apart := false, narrowed := true }
def FnExactMapUptoSaid : Prop := fnExactMapUptoRow.holds Try.pinned (OpenSpec.upto fnExactMapSpec)

/-- 'laws.FnExactEach', WHERE WHAT IT READS IS OF BULK AT MOST 1048576: true; the input reads as it did. -/
def fnExactEachUptoRow : OpenClaim := { program := "ytdamfannmlncnaa", sum := "bbca826bd1c7c1995f2ef3a6d602d032d728aef0180cb6ccc753068a9dbe1036", func := "loop.example/pub-treemaps/laws.FnExactEach", spec := "fnExactEach", unfollowed := true, recurses := true, apart := false, narrowed := true }
def FnExactEachUptoSaid : Prop := fnExactEachUptoRow.holds Try.pinned (OpenSpec.upto fnExactEachSpec)

/-- 'laws.FnOrdered', WHERE WHAT IT READS IS OF BULK AT MOST 1048576: true; the input reads as it did. -/
def fnOrderedUptoRow : OpenClaim := { program := "ytdamfannmlncnaa", sum := "bbca826bd1c7c1995f2ef3a6d602d032d728aef0180cb6ccc753068a9dbe1036", func := "loop.example/pub-treemaps/laws.FnOrdered", spec := "fnOrdered", unfollowed := true, recurses := true, apart := false, narrowed := true }
def FnOrderedUptoSaid : Prop := fnOrderedUptoRow.holds Try.pinned (OpenSpec.upto fnOrderedSpec)

/-- 'laws.FnTurned', WHERE WHAT IT READS IS OF BULK AT MOST 1048576: true; the input reads as it did. -/
def fnTurnedUptoRow : OpenClaim := { program := "ytdamfannmlncnaa", sum := "bbca826bd1c7c1995f2ef3a6d602d032d728aef0180cb6ccc753068a9dbe1036", func := "loop.example/pub-treemaps/laws.FnTurned", spec := "fnTurned", unfollowed := true, recurses := true, apart := false, narrowed := true }
def FnTurnedUptoSaid : Prop := fnTurnedUptoRow.holds Try.pinned (OpenSpec.upto fnTurnedSpec)

/-- 'laws.FnExactCeiling', WHERE WHAT IT READS IS OF BULK AT MOST 1048576: true; the input reads as it did. -/
def fnExactCeilingUptoRow : OpenClaim := { program := "ytdamfannmlncnaa", sum := "bbca826bd1c7c1995f2ef3a6d602d032d728aef0180cb6ccc753068a9dbe1036", func := "loop.example/pub-treemaps/laws.FnExactCeiling", spec := "fnExactCeiling", unfollowed := true, recurses := true, apart := false, narrowed := true }
def FnExactCeilingUptoSaid : Prop := fnExactCeilingUptoRow.holds Try.pinned (OpenSpec.upto fnExactCeilingSpec)

/-- 'laws.FnExactFloor', WHERE WHAT IT READS IS OF BULK AT MOST 1048576: true; the input reads as it did. -/
def fnExactFloorUptoRow : OpenClaim := { program := "ytdamfannmlncnaa", sum := "bbca826bd1c7c1995f2ef3a6d602d032d728aef0180cb6ccc753068a9dbe1036", func := "loop.example/pub-treemaps/laws.FnExactFloor", spec := "fnExactFloor", unfollowed := true, recurses := true, apart := false, narrowed := true }
def FnExactFloorUptoSaid : Prop := fnExactFloorUptoRow.holds Try.pinned (OpenSpec.upto fnExactFloorSpec)

/-- 'laws.FnExactFind', WHERE WHAT IT READS IS OF BULK AT MOST 1048576: true; the input reads as it did. -/
def fnExactFindUptoRow : OpenClaim := { program := "ytdamfannmlncnaa", sum := "bbca826bd1c7c1995f2ef3a6d602d032d728aef0180cb6ccc753068a9dbe1036", func := "loop.example/pub-treemaps/laws.FnExactFind", spec := "fnExactFind", unfollowed := true, recurses := true, apart := false, narrowed := true }
def FnExactFindUptoSaid : Prop := fnExactFindUptoRow.holds Try.pinned (OpenSpec.upto fnExactFindSpec)

/-- 'laws.FnExactSelect', WHERE WHAT IT READS IS OF BULK AT MOST 1048576: true; the input reads as it did. -/
def fnExactSelectUptoRow : OpenClaim := { program := "ytdamfannmlncnaa", sum := "bbca826bd1c7c1995f2ef3a6d602d032d728aef0180cb6ccc753068a9dbe1036", func := "loop.example/pub-treemaps/laws.FnExactSelect", spec := "fnExactSelect", unfollowed := true, recurses := true, apart := false, narrowed := true }
def FnExactSelectUptoSaid : Prop := fnExactSelectUptoRow.holds Try.pinned (OpenSpec.upto fnExactSelectSpec)

/-- 'laws.FnParts', WHERE WHAT IT READS IS OF BULK AT MOST 1048576: true; the input reads as it did. -/
def fnPartsUptoRow : OpenClaim := { program := "ytdamfannmlncnaa", sum := "bbca826bd1c7c1995f2ef3a6d602d032d728aef0180cb6ccc753068a9dbe1036", func := "loop.example/pub-treemaps/laws.FnParts", spec := "fnParts", unfollowed := true, recurses := true, apart := false, narrowed := true }
def FnPartsUptoSaid : Prop := fnPartsUptoRow.holds Try.pinned (OpenSpec.upto fnPartsSpec)

/-- 'laws.FnExactAll', WHERE WHAT IT READS IS OF BULK AT MOST 1048576: true; the input reads as it did. -/
def fnExactAllUptoRow : OpenClaim := { program := "ytdamfannmlncnaa", sum := "bbca826bd1c7c1995f2ef3a6d602d032d728aef0180cb6ccc753068a9dbe1036", func := "loop.example/pub-treemaps/laws.FnExactAll", spec := "fnExactAll", unfollowed := true, recurses := true, apart := false, narrowed := true }
def FnExactAllUptoSaid : Prop := fnExactAllUptoRow.holds Try.pinned (OpenSpec.upto fnExactAllSpec)

/-- 'laws.FnBetween', WHERE WHAT IT READS IS OF BULK AT MOST 1048576: true; the input reads as it did. -/
def fnBetweenUptoRow : OpenClaim := { program := "ytdamfannmlncnaa", sum := "bbca826bd1c7c1995f2ef3a6d602d032d728aef0180cb6ccc753068a9dbe1036", func := "loop.example/pub-treemaps/laws.FnBetween", spec := "fnBetween", unfollowed := true, recurses := true, apart := false, narrowed := true }
def FnBetweenUptoSaid : Prop := fnBetweenUptoRow.holds Try.pinned (OpenSpec.upto fnBetweenSpec)

end Rows
end Go.Proofs.Ytdamfannmlncnaa
