/-
  No cell of these rows narrows 'for every input' (looked for: loops, veiled, ifaces, maps, wideKeys, modest, calm, conditions, laid).
  DERIVED. THE GIVEN ROWS OF THIS SEAT. 4 by the template 'for every input the law returns true; each argument reads behind the call as it read before'; 0 by the template 'total and deterministic' (their statements: YtkjhclknbkleoaaTotals.lean).
  GIVEN WITH THE SEED: the statements are not yours to turn. If you find one false, say at which input.
  Laid BY PROGRAM, IN A SANDBOX (cutbox-rows.mjs): the forced cells as the released guide's own fill.sh prints them over the translation be580e5260712ad4… (all of the seat's roots in one cut). By AI agents, Wed Nov 11 2026. No macro, syntax, notation, axiom, sorry.
-/
import Derived.Test.YtkjhclknbkleoaaChecked
import GoSem.Claim
import GoSem.ClaimJoined
import GoSem.ClaimMapViews
import Derived.JoinedTies
import Derived.KernelRfl
namespace Go.Proofs.Ytkjhclknbkleoaa
/- THE CELL 'sum', in the pinned program and in every row, IS THE sha256 OF THE DUMP (.gsa) THAT YtkjhclknbkleoaaProg.lean LOADS. Nothing in Lean hashes anything: it is a label: what it is worth is what the hold of that sum in a sandbox is worth. -/
noncomputable def Try.pinned : Pinned := { name := "ytkjhclknbkleoaa", sum := "be580e5260712ad47fe4141181706893b1e20ca105dde85cbc23bad256a8e8ed", checked := Try.checked }
namespace Rows
def none {H : Type} : Left H := { results := [], args := [] }

/-- 'laws.FnRatio': WHATEVER THE INPUT: true; the input reads as it did. -/
def fnRatioSpec : ChangeSpec := { name := "fnRatio", fn := fun _ => fun
  | [d1, d2, d3] => { results := [.lit (.bool true)], args := [d1, d2, d3] }
  | _ => none }
def fnRatioRow : OpenClaim := { program := "ytkjhclknbkleoaa", sum := "be580e5260712ad47fe4141181706893b1e20ca105dde85cbc23bad256a8e8ed", func := "curveandscalars/laws.FnRatio", spec := "fnRatio", inPlace := ["math/bits.Add64"], unfollowed := true, recurses := true, apart := false }
def FnRatioSaid : Prop := fnRatioRow.holds Try.pinned (OpenSpec.ofChange fnRatioSpec)

/-- ITS FALSE NEIGHBOUR: 'it returns false'. Refute it at one input. -/
def fnRatioWrong : ChangeSpec := { name := "fnRatio", fn := fun _ => fun
  | [d1, d2, d3] => { results := [.lit (.bool false)], args := [d1, d2, d3] }
  | _ => none }
def FnRatioWrongFalsely : Prop := fnRatioRow.holds Try.pinned (OpenSpec.ofChange fnRatioWrong)

/-- 'laws.FnElement': WHATEVER THE INPUT: true; the input reads as it did. -/
def fnElementSpec : ChangeSpec := { name := "fnElement", fn := fun _ => fun
  | [d1, d2, d3] => { results := [.lit (.bool true)], args := [d1, d2, d3] }
  | _ => none }
def fnElementRow : OpenClaim := { program := "ytkjhclknbkleoaa", sum := "be580e5260712ad47fe4141181706893b1e20ca105dde85cbc23bad256a8e8ed", func := "curveandscalars/laws.FnElement", spec := "fnElement", inPlace := ["math/bits.Add64"], unfollowed := true, recurses := true, apart := false }
def FnElementSaid : Prop := fnElementRow.holds Try.pinned (OpenSpec.ofChange fnElementSpec)

/-- ITS FALSE NEIGHBOUR: 'it returns false'. Refute it at one input. -/
def fnElementWrong : ChangeSpec := { name := "fnElement", fn := fun _ => fun
  | [d1, d2, d3] => { results := [.lit (.bool false)], args := [d1, d2, d3] }
  | _ => none }
def FnElementWrongFalsely : Prop := fnElementRow.holds Try.pinned (OpenSpec.ofChange fnElementWrong)

/-- 'laws.FnDecoded': WHATEVER THE INPUT: true; the input reads as it did. -/
def fnDecodedSpec : ChangeSpec := { name := "fnDecoded", fn := fun _ => fun
  | [d1, d2] => { results := [.lit (.bool true)], args := [d1, d2] }
  | _ => none }
def fnDecodedRow : OpenClaim := { program := "ytkjhclknbkleoaa", sum := "be580e5260712ad47fe4141181706893b1e20ca105dde85cbc23bad256a8e8ed", func := "curveandscalars/laws.FnDecoded", spec := "fnDecoded", inPlace := ["math/bits.Add64"], unfollowed := true, recurses := true, apart := false }
def FnDecodedSaid : Prop := fnDecodedRow.holds Try.pinned (OpenSpec.ofChange fnDecodedSpec)

/-- ITS FALSE NEIGHBOUR: 'it returns false'. Refute it at one input. -/
def fnDecodedWrong : ChangeSpec := { name := "fnDecoded", fn := fun _ => fun
  | [d1, d2] => { results := [.lit (.bool false)], args := [d1, d2] }
  | _ => none }
def FnDecodedWrongFalsely : Prop := fnDecodedRow.holds Try.pinned (OpenSpec.ofChange fnDecodedWrong)

/-- 'laws.FnExtended': WHATEVER THE INPUT: true; the input reads as it did. -/
def fnExtendedSpec : ChangeSpec := { name := "fnExtended", fn := fun _ => fun
  | [d1, d2, d3] => { results := [.lit (.bool true)], args := [d1, d2, d3] }
  | _ => none }
def fnExtendedRow : OpenClaim := { program := "ytkjhclknbkleoaa", sum := "be580e5260712ad47fe4141181706893b1e20ca105dde85cbc23bad256a8e8ed", func := "curveandscalars/laws.FnExtended", spec := "fnExtended", inPlace := ["math/bits.Add64"], unfollowed := true, recurses := true, apart := false }
def FnExtendedSaid : Prop := fnExtendedRow.holds Try.pinned (OpenSpec.ofChange fnExtendedSpec)

/-- ITS FALSE NEIGHBOUR: 'it returns false'. Refute it at one input. -/
def fnExtendedWrong : ChangeSpec := { name := "fnExtended", fn := fun _ => fun
  | [d1, d2, d3] => { results := [.lit (.bool false)], args := [d1, d2, d3] }
  | _ => none }
def FnExtendedWrongFalsely : Prop := fnExtendedRow.holds Try.pinned (OpenSpec.ofChange fnExtendedWrong)

/- THE SECOND FORM. 'bulk': how many values and letters a reading holds, each counted each time it is reached (what is shared counts as often as it is met; a slice's spare places count too). A statement '..UptoSaid' is the law's where the arguments, and the package variables that the reading takes, are together of bulk at most 1048576: NARROWER than '..Said'. Prove '..Said' where nothing that the law and all that it calls make is longer than what came in: it says more and counts as full. Else prove '..UptoSaid'. A law counts once. -/
mutual
def uptoBulk {H : Type} : DataW H → Nat
  | .lit (.string bytes) => bytes.length + 1
  | .lit _ => 1
  | .nil => 1
  | .ptr d => uptoBulk d + 1
  | .slice elems spare => uptoBulkAll elems + uptoBulkAll spare + 1
  | .agg parts => uptoBulkAll parts + 1
  | .iface _ d => uptoBulk d + 1
  | .map entries => uptoBulkEntries entries + 1
  | .held _ => 1
def uptoBulkAll {H : Type} : List (DataW H) → Nat
  | [] => 0
  | d :: r => uptoBulk d + uptoBulkAll r
def uptoBulkEntries {H : Type} : List (Lit × DataW H) → Nat
  | [] => 0
  | x :: r => uptoBulkEntry x + uptoBulkEntries r
def uptoBulkEntry {H : Type} : Lit × DataW H → Nat
  | (.string bytes, d) => bytes.length + uptoBulk d + 1
  | (_, d) => uptoBulk d + 1
 end
def uptoSmall : (H : Type) → List (DataW H) → Bool := fun _ ds => decide (uptoBulkAll ds ≤ 1048576)
def OpenSpec.upto (s : _root_.Go.ChangeSpec) : _root_.Go.OpenSpec := { _root_.Go.OpenSpec.ofChange s with cond := some uptoSmall }

/-- 'laws.FnRatio', WHERE WHAT IT READS IS OF BULK AT MOST 1048576: true; the input reads as it did. -/
def fnRatioUptoRow : OpenClaim := { program := "ytkjhclknbkleoaa", sum := "be580e5260712ad47fe4141181706893b1e20ca105dde85cbc23bad256a8e8ed", func := "curveandscalars/laws.FnRatio", spec := "fnRatio", inPlace := ["math/bits.Add64"], unfollowed := true, recurses := true, apart := false, narrowed := true }
def FnRatioUptoSaid : Prop := fnRatioUptoRow.holds Try.pinned (OpenSpec.upto fnRatioSpec)

/-- 'laws.FnElement', WHERE WHAT IT READS IS OF BULK AT MOST 1048576: true; the input reads as it did. -/
def fnElementUptoRow : OpenClaim := { program := "ytkjhclknbkleoaa", sum := "be580e5260712ad47fe4141181706893b1e20ca105dde85cbc23bad256a8e8ed", func := "curveandscalars/laws.FnElement", spec := "fnElement", inPlace := ["math/bits.Add64"], unfollowed := true, recurses := true, apart := false, narrowed := true }
def FnElementUptoSaid : Prop := fnElementUptoRow.holds Try.pinned (OpenSpec.upto fnElementSpec)

/-- 'laws.FnDecoded', WHERE WHAT IT READS IS OF BULK AT MOST 1048576: true; the input reads as it did. -/
def fnDecodedUptoRow : OpenClaim := { program := "ytkjhclknbkleoaa", sum := "be580e5260712ad47fe4141181706893b1e20ca105dde85cbc23bad256a8e8ed", func := "curveandscalars/laws.FnDecoded", spec := "fnDecoded", inPlace := ["math/bits.Add64"], unfollowed := true, recurses := true, apart := false, narrowed := true }
def FnDecodedUptoSaid : Prop := fnDecodedUptoRow.holds Try.pinned (OpenSpec.upto fnDecodedSpec)

/-- 'laws.FnExtended', WHERE WHAT IT READS IS OF BULK AT MOST 1048576: true; the input reads as it did. -/
def fnExtendedUptoRow : OpenClaim := { program := "ytkjhclknbkleoaa", sum := "be580e5260712ad47fe4141181706893b1e20ca105dde85cbc23bad256a8e8ed", func := "curveandscalars/laws.FnExtended", spec := "fnExtended", inPlace := ["math/bits.Add64"], unfollowed := true, recurses := true, apart := false, narrowed := true }
def FnExtendedUptoSaid : Prop := fnExtendedUptoRow.holds Try.pinned (OpenSpec.upto fnExtendedSpec)

end Rows
end Go.Proofs.Ytkjhclknbkleoaa
