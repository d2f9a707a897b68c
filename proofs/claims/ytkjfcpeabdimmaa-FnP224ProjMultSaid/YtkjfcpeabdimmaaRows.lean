/-
  No cell of these rows narrows 'for every input' (looked for: loops, veiled, ifaces, maps, wideKeys, modest, calm, conditions, laid).
  DERIVED. THE GIVEN ROWS OF THIS SEAT. 11 by the template 'for every input the law returns true; each argument reads behind the call as it read before'; 0 by the template 'total and deterministic' (their statements: YtkjfcpeabdimmaaTotals.lean).
  GIVEN WITH THE SEED: the statements are not yours to turn. If you find one false, say at which input.
  Laid BY PROGRAM, IN A SANDBOX (cutbox-rows.mjs): the forced cells as the released guide's own fill.sh prints them over the translation dd6477580b6682e2… (all of the seat's roots in one cut). By AI agents, Wed Nov 11 2026. No macro, syntax, notation, axiom, sorry.
-/
import Derived.Test.YtkjfcpeabdimmaaChecked
import GoSem.Claim
import GoSem.ClaimJoined
import GoSem.ClaimMapViews
import Derived.JoinedTies
import Derived.KernelRfl
namespace Go.Proofs.Ytkjfcpeabdimmaa
/- THE CELL 'sum', in the pinned program and in every row, IS THE sha256 OF THE DUMP (.gsa) THAT YtkjfcpeabdimmaaProg.lean LOADS. Nothing in Lean hashes anything: it is a label: what it is worth is what the hold of that sum in a sandbox is worth. -/
noncomputable def Try.pinned : Pinned := { name := "ytkjfcpeabdimmaa", sum := "dd6477580b6682e25311f83442a8a8532daf1fde6a21bfdceed0863d66b219aa", checked := Try.checked }
namespace Rows
def none {H : Type} : Left H := { results := [], args := [] }

/-- 'laws.FnP224ProjKept': WHATEVER THE INPUT: true; the input reads as it did. -/
def fnP224ProjKeptSpec : ChangeSpec := { name := "fnP224ProjKept", fn := fun _ => fun
  | [d] => { results := [.lit (.bool true)], args := [d] }
  | _ => none }
def fnP224ProjKeptRow : OpenClaim := { program := "ytkjfcpeabdimmaa", sum := "dd6477580b6682e25311f83442a8a8532daf1fde6a21bfdceed0863d66b219aa", func := "loop.example/pub-g03240/laws.FnP224ProjKept", spec := "fnP224ProjKept", inPlace := ["math/bits.Sub64", "math/bits.Add64"], apart := false }
def FnP224ProjKeptSaid : Prop := fnP224ProjKeptRow.holds Try.pinned (OpenSpec.ofChange fnP224ProjKeptSpec)

/-- ITS FALSE NEIGHBOUR: 'it returns false'. Refute it at one input. -/
def fnP224ProjKeptWrong : ChangeSpec := { name := "fnP224ProjKept", fn := fun _ => fun
  | [d] => { results := [.lit (.bool false)], args := [d] }
  | _ => none }
def FnP224ProjKeptWrongFalsely : Prop := fnP224ProjKeptRow.holds Try.pinned (OpenSpec.ofChange fnP224ProjKeptWrong)

/-- 'laws.FnP224ProjScaled': WHATEVER THE INPUT: true; the input reads as it did. -/
def fnP224ProjScaledSpec : ChangeSpec := { name := "fnP224ProjScaled", fn := fun _ => fun
  | [d1, d2, d3] => { results := [.lit (.bool true)], args := [d1, d2, d3] }
  | _ => none }
def fnP224ProjScaledRow : OpenClaim := { program := "ytkjfcpeabdimmaa", sum := "dd6477580b6682e25311f83442a8a8532daf1fde6a21bfdceed0863d66b219aa", func := "loop.example/pub-g03240/laws.FnP224ProjScaled", spec := "fnP224ProjScaled", inPlace := ["math/bits.Sub64", "math/bits.Add64"], apart := false }
def FnP224ProjScaledSaid : Prop := fnP224ProjScaledRow.holds Try.pinned (OpenSpec.ofChange fnP224ProjScaledSpec)

/-- ITS FALSE NEIGHBOUR: 'it returns false'. Refute it at one input. -/
def fnP224ProjScaledWrong : ChangeSpec := { name := "fnP224ProjScaled", fn := fun _ => fun
  | [d1, d2, d3] => { results := [.lit (.bool false)], args := [d1, d2, d3] }
  | _ => none }
def FnP224ProjScaledWrongFalsely : Prop := fnP224ProjScaledRow.holds Try.pinned (OpenSpec.ofChange fnP224ProjScaledWrong)

/-- 'laws.FnP224Coordinates': WHATEVER THE INPUT: true; the input reads as it did. -/
def fnP224CoordinatesSpec : ChangeSpec := { name := "fnP224Coordinates", fn := fun _ => fun
  | [d1, d2] => { results := [.lit (.bool true)], args := [d1, d2] }
  | _ => none }
def fnP224CoordinatesRow : OpenClaim := { program := "ytkjfcpeabdimmaa", sum := "dd6477580b6682e25311f83442a8a8532daf1fde6a21bfdceed0863d66b219aa", func := "loop.example/pub-g03240/laws.FnP224Coordinates", spec := "fnP224Coordinates", inPlace := ["math/bits.Sub64", "math/bits.Add64"], apart := false }
def FnP224CoordinatesSaid : Prop := fnP224CoordinatesRow.holds Try.pinned (OpenSpec.ofChange fnP224CoordinatesSpec)

/-- ITS FALSE NEIGHBOUR: 'it returns false'. Refute it at one input. -/
def fnP224CoordinatesWrong : ChangeSpec := { name := "fnP224Coordinates", fn := fun _ => fun
  | [d1, d2] => { results := [.lit (.bool false)], args := [d1, d2] }
  | _ => none }
def FnP224CoordinatesWrongFalsely : Prop := fnP224CoordinatesRow.holds Try.pinned (OpenSpec.ofChange fnP224CoordinatesWrong)

/-- 'laws.FnP224ProjDouble': WHATEVER THE INPUT: true; the input reads as it did. -/
def fnP224ProjDoubleSpec : ChangeSpec := { name := "fnP224ProjDouble", fn := fun _ => fun
  | [d] => { results := [.lit (.bool true)], args := [d] }
  | _ => none }
def fnP224ProjDoubleRow : OpenClaim := { program := "ytkjfcpeabdimmaa", sum := "dd6477580b6682e25311f83442a8a8532daf1fde6a21bfdceed0863d66b219aa", func := "loop.example/pub-g03240/laws.FnP224ProjDouble", spec := "fnP224ProjDouble", inPlace := ["math/bits.Sub64", "math/bits.Add64"], apart := false }
def FnP224ProjDoubleSaid : Prop := fnP224ProjDoubleRow.holds Try.pinned (OpenSpec.ofChange fnP224ProjDoubleSpec)

/-- ITS FALSE NEIGHBOUR: 'it returns false'. Refute it at one input. -/
def fnP224ProjDoubleWrong : ChangeSpec := { name := "fnP224ProjDouble", fn := fun _ => fun
  | [d] => { results := [.lit (.bool false)], args := [d] }
  | _ => none }
def FnP224ProjDoubleWrongFalsely : Prop := fnP224ProjDoubleRow.holds Try.pinned (OpenSpec.ofChange fnP224ProjDoubleWrong)

/-- 'laws.FnP224ProjMult': WHATEVER THE INPUT: true; the input reads as it did. -/
def fnP224ProjMultSpec : ChangeSpec := { name := "fnP224ProjMult", fn := fun _ => fun
  | [d1, d2] => { results := [.lit (.bool true)], args := [d1, d2] }
  | _ => none }
def fnP224ProjMultRow : OpenClaim := { program := "ytkjfcpeabdimmaa", sum := "dd6477580b6682e25311f83442a8a8532daf1fde6a21bfdceed0863d66b219aa", func := "loop.example/pub-g03240/laws.FnP224ProjMult", spec := "fnP224ProjMult", inPlace := ["math/bits.Sub64", "math/bits.Add64"], apart := false }
def FnP224ProjMultSaid : Prop := fnP224ProjMultRow.holds Try.pinned (OpenSpec.ofChange fnP224ProjMultSpec)

/-- ITS FALSE NEIGHBOUR: 'it returns false'. Refute it at one input. -/
def fnP224ProjMultWrong : ChangeSpec := { name := "fnP224ProjMult", fn := fun _ => fun
  | [d1, d2] => { results := [.lit (.bool false)], args := [d1, d2] }
  | _ => none }
def FnP224ProjMultWrongFalsely : Prop := fnP224ProjMultRow.holds Try.pinned (OpenSpec.ofChange fnP224ProjMultWrong)

/-- 'laws.FnP224First': WHATEVER THE INPUT: true; the input reads as it did. -/
def fnP224FirstSpec : ChangeSpec := { name := "fnP224First", fn := fun _ => fun
  | [d] => { results := [.lit (.bool true)], args := [d] }
  | _ => none }
def fnP224FirstRow : OpenClaim := { program := "ytkjfcpeabdimmaa", sum := "dd6477580b6682e25311f83442a8a8532daf1fde6a21bfdceed0863d66b219aa", func := "loop.example/pub-g03240/laws.FnP224First", spec := "fnP224First", inPlace := ["math/bits.Sub64", "math/bits.Add64"], apart := false }
def FnP224FirstSaid : Prop := fnP224FirstRow.holds Try.pinned (OpenSpec.ofChange fnP224FirstSpec)

/-- ITS FALSE NEIGHBOUR: 'it returns false'. Refute it at one input. -/
def fnP224FirstWrong : ChangeSpec := { name := "fnP224First", fn := fun _ => fun
  | [d] => { results := [.lit (.bool false)], args := [d] }
  | _ => none }
def FnP224FirstWrongFalsely : Prop := fnP224FirstRow.holds Try.pinned (OpenSpec.ofChange fnP224FirstWrong)

/-- 'laws.FnP224Select': WHATEVER THE INPUT: true; the input reads as it did. -/
def fnP224SelectSpec : ChangeSpec := { name := "fnP224Select", fn := fun _ => fun
  | [d1, d2, d3] => { results := [.lit (.bool true)], args := [d1, d2, d3] }
  | _ => none }
def fnP224SelectRow : OpenClaim := { program := "ytkjfcpeabdimmaa", sum := "dd6477580b6682e25311f83442a8a8532daf1fde6a21bfdceed0863d66b219aa", func := "loop.example/pub-g03240/laws.FnP224Select", spec := "fnP224Select", inPlace := ["math/bits.Sub64", "math/bits.Add64"], apart := false }
def FnP224SelectSaid : Prop := fnP224SelectRow.holds Try.pinned (OpenSpec.ofChange fnP224SelectSpec)

/-- ITS FALSE NEIGHBOUR: 'it returns false'. Refute it at one input. -/
def fnP224SelectWrong : ChangeSpec := { name := "fnP224Select", fn := fun _ => fun
  | [d1, d2, d3] => { results := [.lit (.bool false)], args := [d1, d2, d3] }
  | _ => none }
def FnP224SelectWrongFalsely : Prop := fnP224SelectRow.holds Try.pinned (OpenSpec.ofChange fnP224SelectWrong)

/-- 'laws.FnP224Parse': WHATEVER THE INPUT: true; the input reads as it did. -/
def fnP224ParseSpec : ChangeSpec := { name := "fnP224Parse", fn := fun _ => fun
  | [d] => { results := [.lit (.bool true)], args := [d] }
  | _ => none }
def fnP224ParseRow : OpenClaim := { program := "ytkjfcpeabdimmaa", sum := "dd6477580b6682e25311f83442a8a8532daf1fde6a21bfdceed0863d66b219aa", func := "loop.example/pub-g03240/laws.FnP224Parse", spec := "fnP224Parse", inPlace := ["math/bits.Sub64", "math/bits.Add64"], apart := false }
def FnP224ParseSaid : Prop := fnP224ParseRow.holds Try.pinned (OpenSpec.ofChange fnP224ParseSpec)

/-- ITS FALSE NEIGHBOUR: 'it returns false'. Refute it at one input. -/
def fnP224ParseWrong : ChangeSpec := { name := "fnP224Parse", fn := fun _ => fun
  | [d] => { results := [.lit (.bool false)], args := [d] }
  | _ => none }
def FnP224ParseWrongFalsely : Prop := fnP224ParseRow.holds Try.pinned (OpenSpec.ofChange fnP224ParseWrong)

/-- 'laws.FnP224ShortBack': WHATEVER THE INPUT: true; the input reads as it did. -/
def fnP224ShortBackSpec : ChangeSpec := { name := "fnP224ShortBack", fn := fun _ => fun
  | [d] => { results := [.lit (.bool true)], args := [d] }
  | _ => none }
def fnP224ShortBackRow : OpenClaim := { program := "ytkjfcpeabdimmaa", sum := "dd6477580b6682e25311f83442a8a8532daf1fde6a21bfdceed0863d66b219aa", func := "loop.example/pub-g03240/laws.FnP224ShortBack", spec := "fnP224ShortBack", inPlace := ["math/bits.Sub64", "math/bits.Add64"], apart := false }
def FnP224ShortBackSaid : Prop := fnP224ShortBackRow.holds Try.pinned (OpenSpec.ofChange fnP224ShortBackSpec)

/-- ITS FALSE NEIGHBOUR: 'it returns false'. Refute it at one input. -/
def fnP224ShortBackWrong : ChangeSpec := { name := "fnP224ShortBack", fn := fun _ => fun
  | [d] => { results := [.lit (.bool false)], args := [d] }
  | _ => none }
def FnP224ShortBackWrongFalsely : Prop := fnP224ShortBackRow.holds Try.pinned (OpenSpec.ofChange fnP224ShortBackWrong)

/-- 'laws.FnP224Associates': WHATEVER THE INPUT: true; the input reads as it did. -/
def fnP224AssociatesSpec : ChangeSpec := { name := "fnP224Associates", fn := fun _ => fun
  | [d1, d2, d3] => { results := [.lit (.bool true)], args := [d1, d2, d3] }
  | _ => none }
def fnP224AssociatesRow : OpenClaim := { program := "ytkjfcpeabdimmaa", sum := "dd6477580b6682e25311f83442a8a8532daf1fde6a21bfdceed0863d66b219aa", func := "loop.example/pub-g03240/laws.FnP224Associates", spec := "fnP224Associates", inPlace := ["math/bits.Sub64", "math/bits.Add64"], apart := false }
def FnP224AssociatesSaid : Prop := fnP224AssociatesRow.holds Try.pinned (OpenSpec.ofChange fnP224AssociatesSpec)

/-- ITS FALSE NEIGHBOUR: 'it returns false'. Refute it at one input. -/
def fnP224AssociatesWrong : ChangeSpec := { name := "fnP224Associates", fn := fun _ => fun
  | [d1, d2, d3] => { results := [.lit (.bool false)], args := [d1, d2, d3] }
  | _ => none }
def FnP224AssociatesWrongFalsely : Prop := fnP224AssociatesRow.holds Try.pinned (OpenSpec.ofChange fnP224AssociatesWrong)

/-- 'laws.FnP224OnCurve': WHATEVER THE INPUT: true; the input reads as it did. -/
def fnP224OnCurveSpec : ChangeSpec := { name := "fnP224OnCurve", fn := fun _ => fun
  | [d1, d2] => { results := [.lit (.bool true)], args := [d1, d2] }
  | _ => none }
def fnP224OnCurveRow : OpenClaim := { program := "ytkjfcpeabdimmaa", sum := "dd6477580b6682e25311f83442a8a8532daf1fde6a21bfdceed0863d66b219aa", func := "loop.example/pub-g03240/laws.FnP224OnCurve", spec := "fnP224OnCurve", inPlace := ["math/bits.Sub64", "math/bits.Add64"], apart := false }
def FnP224OnCurveSaid : Prop := fnP224OnCurveRow.holds Try.pinned (OpenSpec.ofChange fnP224OnCurveSpec)

/-- ITS FALSE NEIGHBOUR: 'it returns false'. Refute it at one input. -/
def fnP224OnCurveWrong : ChangeSpec := { name := "fnP224OnCurve", fn := fun _ => fun
  | [d1, d2] => { results := [.lit (.bool false)], args := [d1, d2] }
  | _ => none }
def FnP224OnCurveWrongFalsely : Prop := fnP224OnCurveRow.holds Try.pinned (OpenSpec.ofChange fnP224OnCurveWrong)

/- THE SECOND FORM. 'bulk': how many values and letters a reading holds, each counted each time it is reached (what is shared counts as often as it is met; a slice's spare places count too). A statement '..UptoSaid' is the law's where the arguments, and the package variables that the reading takes, are together of bulk at most 1048576: NARROWER than '..Said'. Prove '..Said' where nothing that the law and all that it calls make is longer than what came in: it says more and counts as full. Else prove '..UptoSaid'. A law counts once. -/
mutual
def uptoBulk {H : Type} : DataW H → Nat
  | .lit (.string bytes) => bytes.length + 1
  | .lit _ => 1
  | .nil => 1
  | .ptr d => uptoBulk d + 1
  | .slice elems spare => uptoBulkAll elems + uptoBulkAll spare + 1
  | .agg parts => uptoBulkAll parts + 1
  | .iface _ d => uptoBulk d + 1
  | .map entries => uptoBulkEntries entries + 1
  | .held _ => 1
def uptoBulkAll {H : Type} : List (DataW H) → Nat
  | [] => 0
  | d :: r => uptoBulk d + uptoBulkAll r
def uptoBulkEntries {H : Type} : List (Lit × DataW H) → Nat
  | [] => 0
  | x :: r => uptoBulkEntry x + uptoBulkEntries r
def uptoBulkEntry {H : Type} : Lit × DataW H → Nat
  | (.string bytes, d) => bytes.length + uptoBulk d + 1
  | (_, d) => uptoBulk d + 1
 end
def uptoSmall : (H : Type) → List (DataW H) → Bool := fun _ ds => decide (uptoBulkAll ds ≤ 1048576)
def OpenSpec.upto (s : _root_.Go.ChangeSpec) : _root_.Go.OpenSpec := { _root_.Go.OpenSpec.ofChange s with cond := some uptoSmall }

/-- 'laws.FnP224ProjKept', WHERE WHAT IT READS IS OF BULK AT MOST 1048576: true; the input reads as it did. -/
def fnP224ProjKeptUptoRow : OpenClaim := { program := "ytkjfcpeabdimmaa", sum := "dd6477580b6682e25311f83442a8a8532daf1fde6a21bfdceed0863d66b219aa", func := "loop.example/pub-g03240/laws.FnP224ProjKept", spec := "fnP224ProjKept", inPlace := ["math/bits.Sub64", "math/bits.Add64"], apart := false, narrowed := true }
def FnP224ProjKeptUptoSaid : Prop := fnP224ProjKeptUptoRow.holds Try.pinned (OpenSpec.upto fnP224ProjKeptSpec)

/-- 'laws.FnP224ProjScaled', WHERE WHAT IT READS IS OF BULK AT MOST 1048576: true; the input reads as it did. -/
def fnP224ProjScaledUptoRow : OpenClaim := { program := "ytkjfcpeabdimmaa", sum := "dd6477580b6682e25311f83442a8a8532daf1fde6a21bfdceed0863d66b219aa", func := "loop.example/pub-g03240/laws.FnP224ProjScaled", spec := "fnP224ProjScaled", inPlace := ["math/bits.Sub64", "math/bits.Add64"], apart := false, narrowed := true }
def FnP224ProjScaledUptoSaid : Prop := fnP224ProjScaledUptoRow.holds Try.pinned (OpenSpec.upto fnP224ProjScaledSpec)

/-- 'laws.FnP224Coordinates', WHERE WHAT IT READS IS OF BULK AT MOST 1048576: true; the input reads as it did. -/
def fnP224CoordinatesUptoRow : OpenClaim := { program := "ytkjfcpeabdimmaa", sum := "dd6477580b6682e25311f83442a8a8532daf1fde6a21bfdceed0863d66b219aa", func := "loop.example/pub-g03240/laws.FnP224Coordinates", spec := "fnP224Coordinates", inPlace := ["math/bits.Sub64", "math/bits.Add64"], apart := false, narrowed := true }
def FnP224CoordinatesUptoSaid : Prop := fnP224CoordinatesUptoRow.holds Try.pinned (OpenSpec.upto fnP224CoordinatesSpec)

/-- 'laws.FnP224ProjDouble', WHERE WHAT IT READS IS OF BULK AT MOST 1048576: true; the input reads as it did. -/
def fnP224ProjDoubleUptoRow : OpenClaim := { program := "ytkjfcpeabdimmaa", sum := "dd6477580b6682e25311f83442a8a8532daf1fde6a21bfdceed0863d66b219aa", func := "loop.example/pub-g03240/laws.FnP224ProjDouble", spec := "fnP224ProjDouble", inPlace := ["math/bits.Sub64", "math/bits.Add64"], apart := false, narrowed := true }
def FnP224ProjDoubleUptoSaid : Prop := fnP224ProjDoubleUptoRow.holds Try.pinned (OpenSpec.upto fnP224ProjDoubleSpec)

/-- 'laws.FnP224ProjMult', WHERE WHAT IT READS IS OF BULK AT MOST 1048576: true; the input reads as it did. -/
def fnP224ProjMultUptoRow : OpenClaim := { program := "ytkjfcpeabdimmaa", sum := "dd6477580b6682e25311f83442a8a8532daf1fde6a21bfdceed0863d66b219aa", func := "loop.example/pub-g03240/laws.FnP224ProjMult", spec := "fnP224ProjMult", inPlace := ["math/bits.Sub64", "math/bits.Add64"], apart := false, narrowed := true }
def FnP224ProjMultUptoSaid : Prop := fnP224ProjMultUptoRow.holds Try.pinned (OpenSpec.upto fnP224ProjMultSpec)

/-- 'laws.FnP224First', WHERE WHAT IT READS IS OF BULK AT MOST 1048576: true; the input reads as it did. -/
def fnP224FirstUptoRow : OpenClaim := { program := "ytkjfcpeabdimmaa", sum := "dd6477580b6682e25311f83442a8a8532daf1fde6a21bfdceed0863d66b219aa", func := "loop.example/pub-g03240/laws.FnP224First", spec := "fnP224First", inPlace := ["math/bits.Sub64", "math/bits.Add64"], apart := false, narrowed := true }
def FnP224FirstUptoSaid : Prop := fnP224FirstUptoRow.holds Try.pinned (OpenSpec.upto fnP224FirstSpec)

/-- 'laws.FnP224Select', WHERE WHAT IT READS IS OF BULK AT MOST 1048576: true; the input reads as it did. -/
def fnP224SelectUptoRow : OpenClaim := { program := "ytkjfcpeabdimmaa", sum := "dd6477580b6682e25311f83442a8a8532daf1fde6a21bfdceed0863d66b219aa", func := "loop.example/pub-g03240/laws.FnP224Select", spec := "fnP224Select", inPlace := ["math/bits.Sub64", "math/bits.Add64"], apart := false, narrowed := true }
def FnP224SelectUptoSaid : Prop := fnP224SelectUptoRow.holds Try.pinned (OpenSpec.upto fnP224SelectSpec)

/-- 'laws.FnP224Parse', WHERE WHAT IT READS IS OF BULK AT MOST 1048576: true; the input reads as it did. -/
def fnP224ParseUptoRow : OpenClaim := { program := "ytkjfcpeabdimmaa", sum := "dd6477580b6682e25311f83442a8a8532daf1fde6a21bfdceed0863d66b219aa", func := "loop.example/pub-g03240/laws.FnP224Parse", spec := "fnP224Parse", inPlace := ["math/bits.Sub64", "math/bits.Add64"], apart := false, narrowed := true }
def FnP224ParseUptoSaid : Prop := fnP224ParseUptoRow.holds Try.pinned (OpenSpec.upto fnP224ParseSpec)

/-- 'laws.FnP224ShortBack', WHERE WHAT IT READS IS OF BULK AT MOST 1048576: true; the input reads as it did. -/
def fnP224ShortBackUptoRow : OpenClaim := { program := "ytkjfcpeabdimmaa", sum := "dd6477580b6682e25311f83442a8a8532daf1fde6a21bfdceed0863d66b219aa", func := "loop.example/pub-g03240/laws.FnP224ShortBack", spec := "fnP224ShortBack", inPlace := ["math/bits.Sub64", "math/bits.Add64"], apart := false, narrowed := true }
def FnP224ShortBackUptoSaid : Prop := fnP224ShortBackUptoRow.holds Try.pinned (OpenSpec.upto fnP224ShortBackSpec)

/-- 'laws.FnP224Associates', WHERE WHAT IT READS IS OF BULK AT MOST 1048576: true; the input reads as it did. -/
def fnP224AssociatesUptoRow : OpenClaim := { program := "ytkjfcpeabdimmaa", sum := "dd6477580b6682e25311f83442a8a8532daf1fde6a21bfdceed0863d66b219aa", func := "loop.example/pub-g03240/laws.FnP224Associates", spec := "fnP224Associates", inPlace := ["math/bits.Sub64", "math/bits.Add64"], apart := false, narrowed := true }
def FnP224AssociatesUptoSaid : Prop := fnP224AssociatesUptoRow.holds Try.pinned (OpenSpec.upto fnP224AssociatesSpec)

/-- 'laws.FnP224OnCurve', WHERE WHAT IT READS IS OF BULK AT MOST 1048576: true; the input reads as it did. -/
def fnP224OnCurveUptoRow : OpenClaim := { program := "ytkjfcpeabdimmaa", sum := "dd6477580b6682e25311f83442a8a8532daf1fde6a21bfdceed0863d66b219aa", func := "loop.example/pub-g03240/laws.FnP224OnCurve", spec := "fnP224OnCurve", inPlace := ["math/bits.Sub64", "math/bits.Add64"], apart := false, narrowed := true }
def FnP224OnCurveUptoSaid : Prop := fnP224OnCurveUptoRow.holds Try.pinned (OpenSpec.upto fnP224OnCurveSpec)

end Rows
end Go.Proofs.Ytkjfcpeabdimmaa
