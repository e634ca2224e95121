/-
  No cell of these rows narrows 'for every input' (looked for: loops, veiled, ifaces, maps, wideKeys, modest, calm, conditions, laid).
  DERIVED. THE GIVEN ROWS OF THIS SEAT. 7 by the template 'for every input the law returns true; each argument reads behind the call as it read before'; 0 by the template 'total and deterministic' (their statements: YtahohmdfllgedaaTotals.lean).
  GIVEN WITH THE SEED: the statements are not yours to turn. If you find one false, say at which input.
  Laid BY PROGRAM, IN A SANDBOX (cutbox-rows.mjs): the forced cells as the released guide's own fill.sh prints them over the translation eab6486ac41f38eb… (all of the seat's roots in one cut). By AI agents, Wed Nov 11 2026. No macro, syntax, notation, axiom, sorry.
-/
import Derived.Test.YtahohmdfllgedaaChecked
import GoSem.Claim
import GoSem.ClaimJoined
import GoSem.ClaimMapViews
import Derived.JoinedTies
import Derived.KernelRfl
namespace Go.Proofs.Ytahohmdfllgedaa
/- THE CELL 'sum', in the pinned program and in every row, IS THE sha256 OF THE DUMP (.gsa) THAT YtahohmdfllgedaaProg.lean LOADS. Nothing in Lean hashes anything: it is a label: what it is worth is what the hold of that sum in a sandbox is worth. -/
noncomputable def Try.pinned : Pinned := { name := "ytahohmdfllgedaa", sum := "eab6486ac41f38eb5c35f2dfba034bedc00cadbc00cc29deb2c4492299e836df", checked := Try.checked }
namespace Rows
def none {H : Type} : Left H := { results := [], args := [] }

/-- 'laws.FnUnsigned': WHATEVER THE INPUT: true; the input reads as it did. -/
def fnUnsignedSpec : ChangeSpec := { name := "fnUnsigned", fn := fun _ => fun
  | [d1, d2, d3] => { results := [.lit (.bool true)], args := [d1, d2, d3] }
  | _ => none }
def fnUnsignedRow : OpenClaim := { program := "ytahohmdfllgedaa", sum := "eab6486ac41f38eb5c35f2dfba034bedc00cadbc00cc29deb2c4492299e836df", func := "delvedwarf/laws.FnUnsigned", spec := "fnUnsigned", unfollowed := true, recurses := true, apart := false }
def FnUnsignedSaid : Prop := fnUnsignedRow.holds Try.pinned (OpenSpec.ofChange fnUnsignedSpec)

/-- ITS FALSE NEIGHBOUR: 'it returns false'. Refute it at one input. -/
def fnUnsignedWrong : ChangeSpec := { name := "fnUnsigned", fn := fun _ => fun
  | [d1, d2, d3] => { results := [.lit (.bool false)], args := [d1, d2, d3] }
  | _ => none }
def FnUnsignedWrongFalsely : Prop := fnUnsignedRow.holds Try.pinned (OpenSpec.ofChange fnUnsignedWrong)

/-- 'laws.FnSigned': WHATEVER THE INPUT: true; the input reads as it did. -/
def fnSignedSpec : ChangeSpec := { name := "fnSigned", fn := fun _ => fun
  | [d1, d2, d3] => { results := [.lit (.bool true)], args := [d1, d2, d3] }
  | _ => none }
def fnSignedRow : OpenClaim := { program := "ytahohmdfllgedaa", sum := "eab6486ac41f38eb5c35f2dfba034bedc00cadbc00cc29deb2c4492299e836df", func := "delvedwarf/laws.FnSigned", spec := "fnSigned", unfollowed := true, recurses := true, apart := false }
def FnSignedSaid : Prop := fnSignedRow.holds Try.pinned (OpenSpec.ofChange fnSignedSpec)

/-- ITS FALSE NEIGHBOUR: 'it returns false'. Refute it at one input. -/
def fnSignedWrong : ChangeSpec := { name := "fnSigned", fn := fun _ => fun
  | [d1, d2, d3] => { results := [.lit (.bool false)], args := [d1, d2, d3] }
  | _ => none }
def FnSignedWrongFalsely : Prop := fnSignedRow.holds Try.pinned (OpenSpec.ofChange fnSignedWrong)

/-- 'laws.FnList': WHATEVER THE INPUT: true; the input reads as it did. -/
def fnListSpec : ChangeSpec := { name := "fnList", fn := fun _ => fun
  | [d] => { results := [.lit (.bool true)], args := [d] }
  | _ => none }
def fnListRow : OpenClaim := { program := "ytahohmdfllgedaa", sum := "eab6486ac41f38eb5c35f2dfba034bedc00cadbc00cc29deb2c4492299e836df", func := "delvedwarf/laws.FnList", spec := "fnList", unfollowed := true, recurses := true, apart := false }
def FnListSaid : Prop := fnListRow.holds Try.pinned (OpenSpec.ofChange fnListSpec)

/-- ITS FALSE NEIGHBOUR: 'it returns false'. Refute it at one input. -/
def fnListWrong : ChangeSpec := { name := "fnList", fn := fun _ => fun
  | [d] => { results := [.lit (.bool false)], args := [d] }
  | _ => none }
def FnListWrongFalsely : Prop := fnListRow.holds Try.pinned (OpenSpec.ofChange fnListWrong)

/-- 'laws.FnConstants': WHATEVER THE INPUT: true; the input reads as it did. -/
def fnConstantsSpec : ChangeSpec := { name := "fnConstants", fn := fun _ => fun
  | [d1, d2] => { results := [.lit (.bool true)], args := [d1, d2] }
  | _ => none }
def fnConstantsRow : OpenClaim := { program := "ytahohmdfllgedaa", sum := "eab6486ac41f38eb5c35f2dfba034bedc00cadbc00cc29deb2c4492299e836df", func := "delvedwarf/laws.FnConstants", spec := "fnConstants", unfollowed := true, recurses := true, apart := false }
def FnConstantsSaid : Prop := fnConstantsRow.holds Try.pinned (OpenSpec.ofChange fnConstantsSpec)

/-- ITS FALSE NEIGHBOUR: 'it returns false'. Refute it at one input. -/
def fnConstantsWrong : ChangeSpec := { name := "fnConstants", fn := fun _ => fun
  | [d1, d2] => { results := [.lit (.bool false)], args := [d1, d2] }
  | _ => none }
def FnConstantsWrongFalsely : Prop := fnConstantsRow.holds Try.pinned (OpenSpec.ofChange fnConstantsWrong)

/-- 'laws.FnEvaluate': WHATEVER THE INPUT: true; the input reads as it did. -/
def fnEvaluateSpec : ChangeSpec := { name := "fnEvaluate", fn := fun _ => fun
  | [d1, d2] => { results := [.lit (.bool true)], args := [d1, d2] }
  | _ => none }
def fnEvaluateRow : OpenClaim := { program := "ytahohmdfllgedaa", sum := "eab6486ac41f38eb5c35f2dfba034bedc00cadbc00cc29deb2c4492299e836df", func := "delvedwarf/laws.FnEvaluate", spec := "fnEvaluate", unfollowed := true, recurses := true, apart := false }
def FnEvaluateSaid : Prop := fnEvaluateRow.holds Try.pinned (OpenSpec.ofChange fnEvaluateSpec)

/-- ITS FALSE NEIGHBOUR: 'it returns false'. Refute it at one input. -/
def fnEvaluateWrong : ChangeSpec := { name := "fnEvaluate", fn := fun _ => fun
  | [d1, d2] => { results := [.lit (.bool false)], args := [d1, d2] }
  | _ => none }
def FnEvaluateWrongFalsely : Prop := fnEvaluateRow.holds Try.pinned (OpenSpec.ofChange fnEvaluateWrong)

/-- 'laws.FnNop': WHATEVER THE INPUT: true; the input reads as it did. -/
def fnNopSpec : ChangeSpec := { name := "fnNop", fn := fun _ => fun
  | [d1, d2, d3] => { results := [.lit (.bool true)], args := [d1, d2, d3] }
  | _ => none }
def fnNopRow : OpenClaim := { program := "ytahohmdfllgedaa", sum := "eab6486ac41f38eb5c35f2dfba034bedc00cadbc00cc29deb2c4492299e836df", func := "delvedwarf/laws.FnNop", spec := "fnNop", unfollowed := true, recurses := true, apart := false }
def FnNopSaid : Prop := fnNopRow.holds Try.pinned (OpenSpec.ofChange fnNopSpec)

/-- ITS FALSE NEIGHBOUR: 'it returns false'. Refute it at one input. -/
def fnNopWrong : ChangeSpec := { name := "fnNop", fn := fun _ => fun
  | [d1, d2, d3] => { results := [.lit (.bool false)], args := [d1, d2, d3] }
  | _ => none }
def FnNopWrongFalsely : Prop := fnNopRow.holds Try.pinned (OpenSpec.ofChange fnNopWrong)

/-- 'laws.FnOperator': WHATEVER THE INPUT: true; the input reads as it did. -/
def fnOperatorSpec : ChangeSpec := { name := "fnOperator", fn := fun _ => fun
  | [d1, d2, d3] => { results := [.lit (.bool true)], args := [d1, d2, d3] }
  | _ => none }
def fnOperatorRow : OpenClaim := { program := "ytahohmdfllgedaa", sum := "eab6486ac41f38eb5c35f2dfba034bedc00cadbc00cc29deb2c4492299e836df", func := "delvedwarf/laws.FnOperator", spec := "fnOperator", unfollowed := true, recurses := true, apart := false }
def FnOperatorSaid : Prop := fnOperatorRow.holds Try.pinned (OpenSpec.ofChange fnOperatorSpec)

/-- ITS FALSE NEIGHBOUR: 'it returns false'. Refute it at one input. -/
def fnOperatorWrong : ChangeSpec := { name := "fnOperator", fn := fun _ => fun
  | [d1, d2, d3] => { results := [.lit (.bool false)], args := [d1, d2, d3] }
  | _ => none }
def FnOperatorWrongFalsely : Prop := fnOperatorRow.holds Try.pinned (OpenSpec.ofChange fnOperatorWrong)

/- THE SECOND FORM. 'bulk': how many values and letters a reading holds, each counted each time it is reached (what is shared counts as often as it is met; a slice's spare places count too). A statement '..UptoSaid' is the law's where the arguments, and the package variables that the reading takes, are together of bulk at most 1048576: NARROWER than '..Said'. Prove '..Said' where nothing that the law and all that it calls make is longer than what came in: it says more and counts as full. Else prove '..UptoSaid'. A law counts once. -/
mutual
def uptoBulk {H : Type} : DataW H → Nat
  | .lit (.string bytes) => bytes.length + 1
  | .lit _ => 1
  | .nil => 1
  | .ptr d => uptoBulk d + 1
  | .slice elems spare => uptoBulkAll elems + uptoBulkAll spare + 1
  | .agg parts => uptoBulkAll parts + 1
  | .iface _ d => uptoBulk d + 1
  | .map entries => uptoBulkEntries entries + 1
  | .held _ => 1
def uptoBulkAll {H : Type} : List (DataW H) → Nat
  | [] => 0
  | d :: r => uptoBulk d + uptoBulkAll r
def uptoBulkEntries {H : Type} : List (Lit × DataW H) → Nat
  | [] => 0
  | x :: r => uptoBulkEntry x + uptoBulkEntries r
def uptoBulkEntry {H : Type} : Lit × DataW H → Nat
  | (.string bytes, d) => bytes.length + uptoBulk d + 1
  | (_, d) => uptoBulk d + 1
 end
def uptoSmall : (H : Type) → List (DataW H) → Bool := fun _ ds => decide (uptoBulkAll ds ≤ 1048576)
def OpenSpec.upto (s : _root_.Go.ChangeSpec) : _root_.Go.OpenSpec := { _root_.Go.OpenSpec.ofChange s with cond := some uptoSmall }

/-- 'laws.FnUnsigned', WHERE WHAT IT READS IS OF BULK AT MOST 1048576: true; the input reads as it did. -/
def fnUnsignedUptoRow : OpenClaim := { program := "ytahohmdfllgedaa", sum := "eab6486ac41f38eb5c35f2dfba034bedc00cadbc00cc29deb2c4492299e836df", func := "delvedwarf/laws.FnUnsigned", spec := "fnUnsigned", unfollowed := true, recurses := true, apart := false, narrowed := true }
def FnUnsignedUptoSaid : Prop := fnUnsignedUptoRow.holds Try.pinned (OpenSpec.upto fnUnsignedSpec)

/-- 'laws.FnSigned', WHERE WHAT IT READS IS OF BULK AT MOST 1048576: true; the input reads as it did. -/
def fnSignedUptoRow : OpenClaim := { program := "ytahohmdfllgedaa", sum := "eab6486ac41f38eb5c35f2dfba034bedc00cadbc00cc29deb2c4492299e836df", func := "delvedwarf/laws.FnSigned", spec := "fnSigned", unfollowed := true, recurses := true, apart := false, narrowed := true }
def FnSignedUptoSaid : Prop := fnSignedUptoRow.holds Try.pinned (OpenSpec.upto fnSignedSpec)

/-- 'laws.FnList', WHERE WHAT IT READS IS OF BULK AT MOST 1048576: true; the input reads as it did. -/
def fnListUptoRow : OpenClaim := { program := "ytahohmdfllgedaa", sum := "eab6486ac41f38eb5c35f2dfba034bedc00cadbc00cc29deb2c4492299e836df", func := "delvedwarf/laws.FnList", spec := "fnList", unfollowed := true, recurses := true, apart := false, narrowed := true }
def FnListUptoSaid : Prop := fnListUptoRow.holds Try.pinned (OpenSpec.upto fnListSpec)

/-- 'laws.FnConstants', WHERE WHAT IT READS IS OF BULK AT MOST 1048576: true; the input reads as it did. -/
def fnConstantsUptoRow : OpenClaim := { program := "ytahohmdfllgedaa", sum := "eab6486ac41f38eb5c35f2dfba034bedc00cadbc00cc29deb2c4492299e836df", func := "delvedwarf/laws.FnConstants", spec := "fnConstants", unfollowed := true, recurses := true, apart := false, narrowed := true }
def FnConstantsUptoSaid : Prop := fnConstantsUptoRow.holds Try.pinned (OpenSpec.upto fnConstantsSpec)

/-- 'laws.FnEvaluate', WHERE WHAT IT READS IS OF BULK AT MOST 1048576: true; the input reads as it did. -/
def fnEvaluateUptoRow : OpenClaim := { program := "ytahohmdfllgedaa", sum := "eab6486ac41f38eb5c35f2dfba034bedc00cadbc00cc29deb2c4492299e836df", func := "delvedwarf/laws.FnEvaluate", spec := "fnEvaluate", unfollowed := true, recurses := true, apart := false, narrowed := true }
def FnEvaluateUptoSaid : Prop := fnEvaluateUptoRow.holds Try.pinned (OpenSpec.upto fnEvaluateSpec)

/-- 'laws.FnNop', WHERE WHAT IT READS IS OF BULK AT MOST 1048576: true; the input reads as it did. -/
def fnNopUptoRow : OpenClaim := { program := "ytahohmdfllgedaa", sum := "eab6486ac41f38eb5c35f2dfba034bedc00cadbc00cc29deb2c4492299e836df", func := "delvedwarf/laws.FnNop", spec := "fnNop", unfollowed := true, recurses := true, apart := false, narrowed := true }
def FnNopUptoSaid : Prop := fnNopUptoRow.holds Try.pinned (OpenSpec.upto fnNopSpec)

/-- 'laws.FnOperator', WHERE WHAT IT READS IS OF BULK AT MOST 1048576: true; the input reads as it did. -/
def fnOperatorUptoRow : OpenClaim := { program := "ytahohmdfllgedaa", sum := "eab6486ac41f38eb5c35f2dfba034bedc00cadbc00cc29deb2c4492299e836df", func := "delvedwarf/laws.FnOperator", spec := "fnOperator", unfollowed := true, recurses := true, apart := false, narrowed := true }
def FnOperatorUptoSaid : Prop := fnOperatorUptoRow.holds Try.pinned (OpenSpec.upto fnOperatorSpec)

end Rows
end Go.Proofs.Ytahohmdfllgedaa
