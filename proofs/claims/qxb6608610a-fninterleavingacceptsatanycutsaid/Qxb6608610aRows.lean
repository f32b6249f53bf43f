/-
  No cell of these rows narrows 'for every input' (looked for: loops, veiled, ifaces, maps, wideKeys, modest, calm, conditions, laid).
  DERIVED. THE GIVEN ROWS OF THIS SEAT. 4 by the template 'for every input the law returns true; each argument reads behind the call as it read before'; 0 by the template 'total and deterministic' (their statements: Qxb6608610aTotals.lean).
  GIVEN WITH THE SEED: the statements are not yours to turn. If you find one false, say at which input.
  Laid BY PROGRAM, IN A SANDBOX (cutbox-rows.mjs): the forced cells as the released guide's own fill.sh prints them over the translation 869dea475a1ab582… (all of the seat's roots in one cut). By AI agents, Wed Nov 11 2026. No macro, syntax, notation, axiom, sorry.
-/
import Derived.Test.Qxb6608610aChecked
import GoSem.Claim
import GoSem.ClaimJoined
import GoSem.ClaimMapViews
import Derived.JoinedTies
import Derived.KernelRfl
namespace Go.Proofs.Qxb6608610a
/- THE CELL 'sum', in the pinned program and in every row, IS THE sha256 OF THE DUMP (.gsa) THAT Qxb6608610aProg.lean LOADS. Nothing in Lean hashes anything: it is a label: what it is worth is what the hold of that sum in a sandbox is worth. -/
noncomputable def Try.pinned : Pinned := { name := "qxb6608610a", sum := "869dea475a1ab582dd246984b1f009a220c3777fe8360cba48e8bfbef60136c2", checked := Try.checked }
namespace Rows
def none {H : Type} : Left H := { results := [], args := [] }

/-- 'zzlaws_root_b1.FnChainCountsScriptSubtractsPerChain': WHATEVER THE INPUT: true; the input reads as it did. -/
def fnChainCountsScriptSubtractsPerChainSpec : ChangeSpec := { name := "fnChainCountsScriptSubtractsPerChain", fn := fun _ => fun
  | [d1, d2] => { results := [.lit (.bool true)], args := [d1, d2] }
  | _ => none }
def fnChainCountsScriptSubtractsPerChainRow : OpenClaim := { program := "qxb6608610a", sum := "869dea475a1ab582dd246984b1f009a220c3777fe8360cba48e8bfbef60136c2", func := "example.com/reentrant-actors/reentrant-actors/zzlaws_root_b1.FnChainCountsScriptSubtractsPerChain", spec := "fnChainCountsScriptSubtractsPerChain", apart := false }
def FnChainCountsScriptSubtractsPerChainSaid : Prop := fnChainCountsScriptSubtractsPerChainRow.holds Try.pinned (OpenSpec.ofChange fnChainCountsScriptSubtractsPerChainSpec)

/-- ITS FALSE NEIGHBOUR: 'it returns false'. Refute it at one input. -/
def fnChainCountsScriptSubtractsPerChainWrong : ChangeSpec := { name := "fnChainCountsScriptSubtractsPerChain", fn := fun _ => fun
  | [d1, d2] => { results := [.lit (.bool false)], args := [d1, d2] }
  | _ => none }
def FnChainCountsScriptSubtractsPerChainWrongFalsely : Prop := fnChainCountsScriptSubtractsPerChainRow.holds Try.pinned (OpenSpec.ofChange fnChainCountsScriptSubtractsPerChainWrong)

/-- 'zzlaws_root_b1.FnHoldsScriptCountsByMode': WHATEVER THE INPUT: true; the input reads as it did. -/
def fnHoldsScriptCountsByModeSpec : ChangeSpec := { name := "fnHoldsScriptCountsByMode", fn := fun _ => fun
  | [d1, d2, d3] => { results := [.lit (.bool true)], args := [d1, d2, d3] }
  | _ => none }
def fnHoldsScriptCountsByModeRow : OpenClaim := { program := "qxb6608610a", sum := "869dea475a1ab582dd246984b1f009a220c3777fe8360cba48e8bfbef60136c2", func := "example.com/reentrant-actors/reentrant-actors/zzlaws_root_b1.FnHoldsScriptCountsByMode", spec := "fnHoldsScriptCountsByMode", apart := false }
def FnHoldsScriptCountsByModeSaid : Prop := fnHoldsScriptCountsByModeRow.holds Try.pinned (OpenSpec.ofChange fnHoldsScriptCountsByModeSpec)

/-- ITS FALSE NEIGHBOUR: 'it returns false'. Refute it at one input. -/
def fnHoldsScriptCountsByModeWrong : ChangeSpec := { name := "fnHoldsScriptCountsByMode", fn := fun _ => fun
  | [d1, d2, d3] => { results := [.lit (.bool false)], args := [d1, d2, d3] }
  | _ => none }
def FnHoldsScriptCountsByModeWrongFalsely : Prop := fnHoldsScriptCountsByModeRow.holds Try.pinned (OpenSpec.ofChange fnHoldsScriptCountsByModeWrong)

/-- 'zzlaws_root_b1.FnInterleavingAcceptsAtAnyCut': WHATEVER THE INPUT: true; the input reads as it did. -/
def fnInterleavingAcceptsAtAnyCutSpec : ChangeSpec := { name := "fnInterleavingAcceptsAtAnyCut", fn := fun _ => fun
  | [d1, d2, d3, d4, d5] => { results := [.lit (.bool true)], args := [d1, d2, d3, d4, d5] }
  | _ => none }
def fnInterleavingAcceptsAtAnyCutRow : OpenClaim := { program := "qxb6608610a", sum := "869dea475a1ab582dd246984b1f009a220c3777fe8360cba48e8bfbef60136c2", func := "example.com/reentrant-actors/reentrant-actors/zzlaws_root_b1.FnInterleavingAcceptsAtAnyCut", spec := "fnInterleavingAcceptsAtAnyCut", unfollowed := true, recurses := true, apart := false }
def FnInterleavingAcceptsAtAnyCutSaid : Prop := fnInterleavingAcceptsAtAnyCutRow.holds Try.pinned (OpenSpec.ofChange fnInterleavingAcceptsAtAnyCutSpec)

/-- ITS FALSE NEIGHBOUR: 'it returns false'. Refute it at one input. -/
def fnInterleavingAcceptsAtAnyCutWrong : ChangeSpec := { name := "fnInterleavingAcceptsAtAnyCut", fn := fun _ => fun
  | [d1, d2, d3, d4, d5] => { results := [.lit (.bool false)], args := [d1, d2, d3, d4, d5] }
  | _ => none }
def FnInterleavingAcceptsAtAnyCutWrongFalsely : Prop := fnInterleavingAcceptsAtAnyCutRow.holds Try.pinned (OpenSpec.ofChange fnInterleavingAcceptsAtAnyCutWrong)

/-- 'zzlaws_root_b1.FnInterleavingAcceptsOneTypePutIn': WHATEVER THE INPUT: true; the input reads as it did. -/
def fnInterleavingAcceptsOneTypePutInSpec : ChangeSpec := { name := "fnInterleavingAcceptsOneTypePutIn", fn := fun _ => fun
  | [d1, d2, d3, d4, d5, d6] => { results := [.lit (.bool true)], args := [d1, d2, d3, d4, d5, d6] }
  | _ => none }
def fnInterleavingAcceptsOneTypePutInRow : OpenClaim := { program := "qxb6608610a", sum := "869dea475a1ab582dd246984b1f009a220c3777fe8360cba48e8bfbef60136c2", func := "example.com/reentrant-actors/reentrant-actors/zzlaws_root_b1.FnInterleavingAcceptsOneTypePutIn", spec := "fnInterleavingAcceptsOneTypePutIn", unfollowed := true, recurses := true, apart := false }
def FnInterleavingAcceptsOneTypePutInSaid : Prop := fnInterleavingAcceptsOneTypePutInRow.holds Try.pinned (OpenSpec.ofChange fnInterleavingAcceptsOneTypePutInSpec)

/-- ITS FALSE NEIGHBOUR: 'it returns false'. Refute it at one input. -/
def fnInterleavingAcceptsOneTypePutInWrong : ChangeSpec := { name := "fnInterleavingAcceptsOneTypePutIn", fn := fun _ => fun
  | [d1, d2, d3, d4, d5, d6] => { results := [.lit (.bool false)], args := [d1, d2, d3, d4, d5, d6] }
  | _ => none }
def FnInterleavingAcceptsOneTypePutInWrongFalsely : Prop := fnInterleavingAcceptsOneTypePutInRow.holds Try.pinned (OpenSpec.ofChange fnInterleavingAcceptsOneTypePutInWrong)

end Rows
end Go.Proofs.Qxb6608610a
