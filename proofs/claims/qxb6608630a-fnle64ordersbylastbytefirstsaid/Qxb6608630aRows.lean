/-
  No cell of these rows narrows 'for every input' (looked for: loops, veiled, ifaces, maps, wideKeys, modest, calm, conditions, laid).
  DERIVED. THE GIVEN ROWS OF THIS SEAT. 2 by the template 'for every input the law returns true; each argument reads behind the call as it read before'; 0 by the template 'total and deterministic' (their statements: Qxb6608630aTotals.lean).
  GIVEN WITH THE SEED: the statements are not yours to turn. If you find one false, say at which input.
  Laid BY PROGRAM, IN A SANDBOX (cutbox-rows.mjs): the forced cells as the released guide's own fill.sh prints them over the translation 64cee3da97bcf81c… (all of the seat's roots in one cut). By AI agents, Wed Nov 11 2026. No macro, syntax, notation, axiom, sorry.
-/
import Derived.Test.Qxb6608630aChecked
import GoSem.Claim
import GoSem.ClaimJoined
import GoSem.ClaimMapViews
import Derived.JoinedTies
import Derived.KernelRfl
namespace Go.Proofs.Qxb6608630a
/- THE CELL 'sum', in the pinned program and in every row, IS THE sha256 OF THE DUMP (.gsa) THAT Qxb6608630aProg.lean LOADS. Nothing in Lean hashes anything: it is a label: what it is worth is what the hold of that sum in a sandbox is worth. -/
noncomputable def Try.pinned : Pinned := { name := "qxb6608630a", sum := "64cee3da97bcf81cf4d42ff68ffbaff95ac713fd1d0e135e4caf809ef86f337c", checked := Try.checked }
namespace Rows
def none {H : Type} : Left H := { results := [], args := [] }

/-- 'zzlaws_root_b1.FnLe64OrdersByLastByteFirst': WHATEVER THE INPUT: true; the input reads as it did. -/
def fnLe64OrdersByLastByteFirstSpec : ChangeSpec := { name := "fnLe64OrdersByLastByteFirst", fn := fun _ => fun
  | [d1, d2] => { results := [.lit (.bool true)], args := [d1, d2] }
  | _ => none }
def fnLe64OrdersByLastByteFirstRow : OpenClaim := { program := "qxb6608630a", sum := "64cee3da97bcf81cf4d42ff68ffbaff95ac713fd1d0e135e4caf809ef86f337c", func := "example.com/latchwork/latchwork/zzlaws_root_b1.FnLe64OrdersByLastByteFirst", spec := "fnLe64OrdersByLastByteFirst", apart := false }
def FnLe64OrdersByLastByteFirstSaid : Prop := fnLe64OrdersByLastByteFirstRow.holds Try.pinned (OpenSpec.ofChange fnLe64OrdersByLastByteFirstSpec)

/-- ITS FALSE NEIGHBOUR: 'it returns false'. Refute it at one input. -/
def fnLe64OrdersByLastByteFirstWrong : ChangeSpec := { name := "fnLe64OrdersByLastByteFirst", fn := fun _ => fun
  | [d1, d2] => { results := [.lit (.bool false)], args := [d1, d2] }
  | _ => none }
def FnLe64OrdersByLastByteFirstWrongFalsely : Prop := fnLe64OrdersByLastByteFirstRow.holds Try.pinned (OpenSpec.ofChange fnLe64OrdersByLastByteFirstWrong)

/-- 'zzlaws_root_b1.FnLe64ShiftsByOneByte': WHATEVER THE INPUT: true; the input reads as it did. -/
def fnLe64ShiftsByOneByteSpec : ChangeSpec := { name := "fnLe64ShiftsByOneByte", fn := fun _ => fun
  | [d] => { results := [.lit (.bool true)], args := [d] }
  | _ => none }
def fnLe64ShiftsByOneByteRow : OpenClaim := { program := "qxb6608630a", sum := "64cee3da97bcf81cf4d42ff68ffbaff95ac713fd1d0e135e4caf809ef86f337c", func := "example.com/latchwork/latchwork/zzlaws_root_b1.FnLe64ShiftsByOneByte", spec := "fnLe64ShiftsByOneByte", apart := false }
def FnLe64ShiftsByOneByteSaid : Prop := fnLe64ShiftsByOneByteRow.holds Try.pinned (OpenSpec.ofChange fnLe64ShiftsByOneByteSpec)

/-- ITS FALSE NEIGHBOUR: 'it returns false'. Refute it at one input. -/
def fnLe64ShiftsByOneByteWrong : ChangeSpec := { name := "fnLe64ShiftsByOneByte", fn := fun _ => fun
  | [d] => { results := [.lit (.bool false)], args := [d] }
  | _ => none }
def FnLe64ShiftsByOneByteWrongFalsely : Prop := fnLe64ShiftsByOneByteRow.holds Try.pinned (OpenSpec.ofChange fnLe64ShiftsByOneByteWrong)

end Rows
end Go.Proofs.Qxb6608630a
