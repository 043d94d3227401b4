/-
  No cell of these rows narrows 'for every input' (looked for: loops, veiled, ifaces, maps, wideKeys, modest, calm, conditions, laid).
  DERIVED. THE GIVEN ROWS OF THIS SEAT. 8 by the template 'for every input the law returns true; each argument reads behind the call as it read before'; 0 by the template 'total and deterministic' (their statements: Qxb6001092aTotals.lean).
  GIVEN WITH THE SEED: the statements are not yours to turn. If you find one false, say at which input.
  Laid BY PROGRAM, IN A SANDBOX (cutbox-rows.mjs): the forced cells as the released guide's own fill.sh prints them over the translation 7fd950c14e38b93d… (all of the seat's roots in one cut). By AI agents, Wed Nov 11 2026. No macro, syntax, notation, axiom, sorry.
-/
import Derived.Test.Qxb6001092aChecked
import GoSem.Claim
import GoSem.ClaimJoined
import GoSem.ClaimMapViews
import Derived.JoinedTies
import Derived.KernelRfl
namespace Go.Proofs.Qxb6001092a
/- THE CELL 'sum', in the pinned program and in every row, IS THE sha256 OF THE DUMP (.gsa) THAT Qxb6001092aProg.lean LOADS. Nothing in Lean hashes anything: it is a label: what it is worth is what the hold of that sum in a sandbox is worth. -/
noncomputable def Try.pinned : Pinned := { name := "qxb6001092a", sum := "7fd950c14e38b93ddac3814bd9dca43a70d76dc0b2eef0df3288d5ba9b7d0094", checked := Try.checked }
namespace Rows
def none {H : Type} : Left H := { results := [], args := [] }

/-- 'zzlaws_git_b1.FnVarintRoundTrip': WHATEVER THE INPUT: true; the input reads as it did. -/
def fnVarintRoundTripSpec : ChangeSpec := { name := "fnVarintRoundTrip", fn := fun _ => fun
  | [d1, d2] => { results := [.lit (.bool true)], args := [d1, d2] }
  | _ => none }
def fnVarintRoundTripRow : OpenClaim := { program := "qxb6001092a", sum := "7fd950c14e38b93ddac3814bd9dca43a70d76dc0b2eef0df3288d5ba9b7d0094", func := "example.com/coppice/coppice/zzlaws_git_b1.FnVarintRoundTrip", spec := "fnVarintRoundTrip", apart := false }
def FnVarintRoundTripSaid : Prop := fnVarintRoundTripRow.holds Try.pinned (OpenSpec.ofChange fnVarintRoundTripSpec)

/-- ITS FALSE NEIGHBOUR: 'it returns false'. Refute it at one input. -/
def fnVarintRoundTripWrong : ChangeSpec := { name := "fnVarintRoundTrip", fn := fun _ => fun
  | [d1, d2] => { results := [.lit (.bool false)], args := [d1, d2] }
  | _ => none }
def FnVarintRoundTripWrongFalsely : Prop := fnVarintRoundTripRow.holds Try.pinned (OpenSpec.ofChange fnVarintRoundTripWrong)

/-- 'zzlaws_git_b1.FnVarintAcceptedIsCanonical': WHATEVER THE INPUT: true; the input reads as it did. -/
def fnVarintAcceptedIsCanonicalSpec : ChangeSpec := { name := "fnVarintAcceptedIsCanonical", fn := fun _ => fun
  | [d] => { results := [.lit (.bool true)], args := [d] }
  | _ => none }
def fnVarintAcceptedIsCanonicalRow : OpenClaim := { program := "qxb6001092a", sum := "7fd950c14e38b93ddac3814bd9dca43a70d76dc0b2eef0df3288d5ba9b7d0094", func := "example.com/coppice/coppice/zzlaws_git_b1.FnVarintAcceptedIsCanonical", spec := "fnVarintAcceptedIsCanonical", apart := false }
def FnVarintAcceptedIsCanonicalSaid : Prop := fnVarintAcceptedIsCanonicalRow.holds Try.pinned (OpenSpec.ofChange fnVarintAcceptedIsCanonicalSpec)

/-- ITS FALSE NEIGHBOUR: 'it returns false'. Refute it at one input. -/
def fnVarintAcceptedIsCanonicalWrong : ChangeSpec := { name := "fnVarintAcceptedIsCanonical", fn := fun _ => fun
  | [d] => { results := [.lit (.bool false)], args := [d] }
  | _ => none }
def FnVarintAcceptedIsCanonicalWrongFalsely : Prop := fnVarintAcceptedIsCanonicalRow.holds Try.pinned (OpenSpec.ofChange fnVarintAcceptedIsCanonicalWrong)

/-- 'zzlaws_git_b1.FnVarintRefusesOnlyPastNineBytes': WHATEVER THE INPUT: true; the input reads as it did. -/
def fnVarintRefusesOnlyPastNineBytesSpec : ChangeSpec := { name := "fnVarintRefusesOnlyPastNineBytes", fn := fun _ => fun
  | [d] => { results := [.lit (.bool true)], args := [d] }
  | _ => none }
def fnVarintRefusesOnlyPastNineBytesRow : OpenClaim := { program := "qxb6001092a", sum := "7fd950c14e38b93ddac3814bd9dca43a70d76dc0b2eef0df3288d5ba9b7d0094", func := "example.com/coppice/coppice/zzlaws_git_b1.FnVarintRefusesOnlyPastNineBytes", spec := "fnVarintRefusesOnlyPastNineBytes", apart := false }
def FnVarintRefusesOnlyPastNineBytesSaid : Prop := fnVarintRefusesOnlyPastNineBytesRow.holds Try.pinned (OpenSpec.ofChange fnVarintRefusesOnlyPastNineBytesSpec)

/-- ITS FALSE NEIGHBOUR: 'it returns false'. Refute it at one input. -/
def fnVarintRefusesOnlyPastNineBytesWrong : ChangeSpec := { name := "fnVarintRefusesOnlyPastNineBytes", fn := fun _ => fun
  | [d] => { results := [.lit (.bool false)], args := [d] }
  | _ => none }
def FnVarintRefusesOnlyPastNineBytesWrongFalsely : Prop := fnVarintRefusesOnlyPastNineBytesRow.holds Try.pinned (OpenSpec.ofChange fnVarintRefusesOnlyPastNineBytesWrong)

/-- 'zzlaws_git_b1.FnAskDirEmptyOnlyAtRoot': WHATEVER THE INPUT: true; the input reads as it did. -/
def fnAskDirEmptyOnlyAtRootSpec : ChangeSpec := { name := "fnAskDirEmptyOnlyAtRoot", fn := fun _ => fun
  | [d1, d2] => { results := [.lit (.bool true)], args := [d1, d2] }
  | _ => none }
def fnAskDirEmptyOnlyAtRootRow : OpenClaim := { program := "qxb6001092a", sum := "7fd950c14e38b93ddac3814bd9dca43a70d76dc0b2eef0df3288d5ba9b7d0094", func := "example.com/coppice/coppice/zzlaws_git_b1.FnAskDirEmptyOnlyAtRoot", spec := "fnAskDirEmptyOnlyAtRoot", apart := false }
def FnAskDirEmptyOnlyAtRootSaid : Prop := fnAskDirEmptyOnlyAtRootRow.holds Try.pinned (OpenSpec.ofChange fnAskDirEmptyOnlyAtRootSpec)

/-- ITS FALSE NEIGHBOUR: 'it returns false'. Refute it at one input. -/
def fnAskDirEmptyOnlyAtRootWrong : ChangeSpec := { name := "fnAskDirEmptyOnlyAtRoot", fn := fun _ => fun
  | [d1, d2] => { results := [.lit (.bool false)], args := [d1, d2] }
  | _ => none }
def FnAskDirEmptyOnlyAtRootWrongFalsely : Prop := fnAskDirEmptyOnlyAtRootRow.holds Try.pinned (OpenSpec.ofChange fnAskDirEmptyOnlyAtRootWrong)

/-- 'zzlaws_git_b1.FnUntrackedCacheEmptyModel': WHATEVER THE INPUT: true; the input reads as it did. -/
def fnUntrackedCacheEmptyModelSpec : ChangeSpec := { name := "fnUntrackedCacheEmptyModel", fn := fun _ => fun
  | [d1, d2, d3, d4, d5, d6] => { results := [.lit (.bool true)], args := [d1, d2, d3, d4, d5, d6] }
  | _ => none }
def fnUntrackedCacheEmptyModelRow : OpenClaim := { program := "qxb6001092a", sum := "7fd950c14e38b93ddac3814bd9dca43a70d76dc0b2eef0df3288d5ba9b7d0094", func := "example.com/coppice/coppice/zzlaws_git_b1.FnUntrackedCacheEmptyModel", spec := "fnUntrackedCacheEmptyModel", inPlace := ["internal/bytealg.IndexByte"], apart := false }
def FnUntrackedCacheEmptyModelSaid : Prop := fnUntrackedCacheEmptyModelRow.holds Try.pinned (OpenSpec.ofChange fnUntrackedCacheEmptyModelSpec)

/-- ITS FALSE NEIGHBOUR: 'it returns false'. Refute it at one input. -/
def fnUntrackedCacheEmptyModelWrong : ChangeSpec := { name := "fnUntrackedCacheEmptyModel", fn := fun _ => fun
  | [d1, d2, d3, d4, d5, d6] => { results := [.lit (.bool false)], args := [d1, d2, d3, d4, d5, d6] }
  | _ => none }
def FnUntrackedCacheEmptyModelWrongFalsely : Prop := fnUntrackedCacheEmptyModelRow.holds Try.pinned (OpenSpec.ofChange fnUntrackedCacheEmptyModelWrong)

/-- 'zzlaws_git_b1.FnUntrackedCacheEmptyRefusesTruncated': WHATEVER THE INPUT: true; the input reads as it did. -/
def fnUntrackedCacheEmptyRefusesTruncatedSpec : ChangeSpec := { name := "fnUntrackedCacheEmptyRefusesTruncated", fn := fun _ => fun
  | [d1, d2, d3, d4, d5] => { results := [.lit (.bool true)], args := [d1, d2, d3, d4, d5] }
  | _ => none }
def fnUntrackedCacheEmptyRefusesTruncatedRow : OpenClaim := { program := "qxb6001092a", sum := "7fd950c14e38b93ddac3814bd9dca43a70d76dc0b2eef0df3288d5ba9b7d0094", func := "example.com/coppice/coppice/zzlaws_git_b1.FnUntrackedCacheEmptyRefusesTruncated", spec := "fnUntrackedCacheEmptyRefusesTruncated", inPlace := ["internal/bytealg.IndexByte"], apart := false }
def FnUntrackedCacheEmptyRefusesTruncatedSaid : Prop := fnUntrackedCacheEmptyRefusesTruncatedRow.holds Try.pinned (OpenSpec.ofChange fnUntrackedCacheEmptyRefusesTruncatedSpec)

/-- ITS FALSE NEIGHBOUR: 'it returns false'. Refute it at one input. -/
def fnUntrackedCacheEmptyRefusesTruncatedWrong : ChangeSpec := { name := "fnUntrackedCacheEmptyRefusesTruncated", fn := fun _ => fun
  | [d1, d2, d3, d4, d5] => { results := [.lit (.bool false)], args := [d1, d2, d3, d4, d5] }
  | _ => none }
def FnUntrackedCacheEmptyRefusesTruncatedWrongFalsely : Prop := fnUntrackedCacheEmptyRefusesTruncatedRow.holds Try.pinned (OpenSpec.ofChange fnUntrackedCacheEmptyRefusesTruncatedWrong)

/-- 'zzlaws_git_b1.FnUntrackedCacheEmptyKeptByAppending': WHATEVER THE INPUT: true; the input reads as it did. -/
def fnUntrackedCacheEmptyKeptByAppendingSpec : ChangeSpec := { name := "fnUntrackedCacheEmptyKeptByAppending", fn := fun _ => fun
  | [d1, d2, d3] => { results := [.lit (.bool true)], args := [d1, d2, d3] }
  | _ => none }
def fnUntrackedCacheEmptyKeptByAppendingRow : OpenClaim := { program := "qxb6001092a", sum := "7fd950c14e38b93ddac3814bd9dca43a70d76dc0b2eef0df3288d5ba9b7d0094", func := "example.com/coppice/coppice/zzlaws_git_b1.FnUntrackedCacheEmptyKeptByAppending", spec := "fnUntrackedCacheEmptyKeptByAppending", inPlace := ["internal/bytealg.IndexByte"], apart := false }
def FnUntrackedCacheEmptyKeptByAppendingSaid : Prop := fnUntrackedCacheEmptyKeptByAppendingRow.holds Try.pinned (OpenSpec.ofChange fnUntrackedCacheEmptyKeptByAppendingSpec)

/-- ITS FALSE NEIGHBOUR: 'it returns false'. Refute it at one input. -/
def fnUntrackedCacheEmptyKeptByAppendingWrong : ChangeSpec := { name := "fnUntrackedCacheEmptyKeptByAppending", fn := fun _ => fun
  | [d1, d2, d3] => { results := [.lit (.bool false)], args := [d1, d2, d3] }
  | _ => none }
def FnUntrackedCacheEmptyKeptByAppendingWrongFalsely : Prop := fnUntrackedCacheEmptyKeptByAppendingRow.holds Try.pinned (OpenSpec.ofChange fnUntrackedCacheEmptyKeptByAppendingWrong)

/-- 'zzlaws_git_b1.FnAskDirStripsOneDotGit': WHATEVER THE INPUT: true; the input reads as it did. -/
def fnAskDirStripsOneDotGitSpec : ChangeSpec := { name := "fnAskDirStripsOneDotGit", fn := fun _ => fun
  | [d] => { results := [.lit (.bool true)], args := [d] }
  | _ => none }
def fnAskDirStripsOneDotGitRow : OpenClaim := { program := "qxb6001092a", sum := "7fd950c14e38b93ddac3814bd9dca43a70d76dc0b2eef0df3288d5ba9b7d0094", func := "example.com/coppice/coppice/zzlaws_git_b1.FnAskDirStripsOneDotGit", spec := "fnAskDirStripsOneDotGit", apart := false }
def FnAskDirStripsOneDotGitSaid : Prop := fnAskDirStripsOneDotGitRow.holds Try.pinned (OpenSpec.ofChange fnAskDirStripsOneDotGitSpec)

/-- ITS FALSE NEIGHBOUR: 'it returns false'. Refute it at one input. -/
def fnAskDirStripsOneDotGitWrong : ChangeSpec := { name := "fnAskDirStripsOneDotGit", fn := fun _ => fun
  | [d] => { results := [.lit (.bool false)], args := [d] }
  | _ => none }
def FnAskDirStripsOneDotGitWrongFalsely : Prop := fnAskDirStripsOneDotGitRow.holds Try.pinned (OpenSpec.ofChange fnAskDirStripsOneDotGitWrong)

end Rows
end Go.Proofs.Qxb6001092a
