/-
  No cell of these rows narrows 'for every input' (looked for: loops, veiled, ifaces, maps, wideKeys, modest, calm, conditions, laid).
  DERIVED. THE GIVEN ROWS OF THIS SEAT. 4 by the template 'for every input the law returns true; each argument reads behind the call as it read before'; 0 by the template 'total and deterministic' (their statements: YtbepfmhkccgnfaaTotals.lean).
  GIVEN WITH THE SEED: the statements are not yours to turn. If you find one false, say at which input.
  Laid BY PROGRAM, IN A SANDBOX (cutbox-rows.mjs): the forced cells as the released guide's own fill.sh prints them over the translation 7db4293d7a546882… (all of the seat's roots in one cut). By AI agents, Wed Nov 11 2026. No macro, syntax, notation, axiom, sorry.
-/
import Derived.Test.YtbepfmhkccgnfaaChecked
import GoSem.Claim
import GoSem.ClaimJoined
import GoSem.ClaimMapViews
import Derived.JoinedTies
import Derived.KernelRfl
namespace Go.Proofs.Ytbepfmhkccgnfaa
/- THE CELL 'sum', in the pinned program and in every row, IS THE sha256 OF THE DUMP (.gsa) THAT YtbepfmhkccgnfaaProg.lean LOADS. Nothing in Lean hashes anything: it is a label: what it is worth is what the hold of that sum in a sandbox is worth. -/
noncomputable def Try.pinned : Pinned := { name := "ytbepfmhkccgnfaa", sum := "7db4293d7a546882cd8dccbd7f83f141bcf804ea967ff62c22982964547269f7", checked := Try.checked }
namespace Rows
def none {H : Type} : Left H := { results := [], args := [] }

/-- 'laws.FnTea': WHATEVER THE INPUT: true; the input reads as it did. -/
def fnTeaSpec : ChangeSpec := { name := "fnTea", fn := fun _ => fun
  | [d1, d2, d3] => { results := [.lit (.bool true)], args := [d1, d2, d3] }
  | _ => none }
def fnTeaRow : OpenClaim := { program := "ytbepfmhkccgnfaa", sum := "7db4293d7a546882cd8dccbd7f83f141bcf804ea967ff62c22982964547269f7", func := "loop.example/pub-g03044/laws.FnTea", spec := "fnTea", apart := false }
def FnTeaSaid : Prop := fnTeaRow.holds Try.pinned (OpenSpec.ofChange fnTeaSpec)

/-- ITS FALSE NEIGHBOUR: 'it returns false'. Refute it at one input. -/
def fnTeaWrong : ChangeSpec := { name := "fnTea", fn := fun _ => fun
  | [d1, d2, d3] => { results := [.lit (.bool false)], args := [d1, d2, d3] }
  | _ => none }
def FnTeaWrongFalsely : Prop := fnTeaRow.holds Try.pinned (OpenSpec.ofChange fnTeaWrong)

/-- 'laws.FnTeaBack': WHATEVER THE INPUT: true; the input reads as it did. -/
def fnTeaBackSpec : ChangeSpec := { name := "fnTeaBack", fn := fun _ => fun
  | [d1, d2, d3] => { results := [.lit (.bool true)], args := [d1, d2, d3] }
  | _ => none }
def fnTeaBackRow : OpenClaim := { program := "ytbepfmhkccgnfaa", sum := "7db4293d7a546882cd8dccbd7f83f141bcf804ea967ff62c22982964547269f7", func := "loop.example/pub-g03044/laws.FnTeaBack", spec := "fnTeaBack", apart := false }
def FnTeaBackSaid : Prop := fnTeaBackRow.holds Try.pinned (OpenSpec.ofChange fnTeaBackSpec)

/-- ITS FALSE NEIGHBOUR: 'it returns false'. Refute it at one input. -/
def fnTeaBackWrong : ChangeSpec := { name := "fnTeaBack", fn := fun _ => fun
  | [d1, d2, d3] => { results := [.lit (.bool false)], args := [d1, d2, d3] }
  | _ => none }
def FnTeaBackWrongFalsely : Prop := fnTeaBackRow.holds Try.pinned (OpenSpec.ofChange fnTeaBackWrong)

/-- 'laws.FnTeaRefused': WHATEVER THE INPUT: true; the input reads as it did. -/
def fnTeaRefusedSpec : ChangeSpec := { name := "fnTeaRefused", fn := fun _ => fun
  | [d1, d2, d3] => { results := [.lit (.bool true)], args := [d1, d2, d3] }
  | _ => none }
def fnTeaRefusedRow : OpenClaim := { program := "ytbepfmhkccgnfaa", sum := "7db4293d7a546882cd8dccbd7f83f141bcf804ea967ff62c22982964547269f7", func := "loop.example/pub-g03044/laws.FnTeaRefused", spec := "fnTeaRefused", apart := false }
def FnTeaRefusedSaid : Prop := fnTeaRefusedRow.holds Try.pinned (OpenSpec.ofChange fnTeaRefusedSpec)

/-- ITS FALSE NEIGHBOUR: 'it returns false'. Refute it at one input. -/
def fnTeaRefusedWrong : ChangeSpec := { name := "fnTeaRefused", fn := fun _ => fun
  | [d1, d2, d3] => { results := [.lit (.bool false)], args := [d1, d2, d3] }
  | _ => none }
def FnTeaRefusedWrongFalsely : Prop := fnTeaRefusedRow.holds Try.pinned (OpenSpec.ofChange fnTeaRefusedWrong)

/-- 'laws.FnXtea': WHATEVER THE INPUT: true; the input reads as it did. -/
def fnXteaSpec : ChangeSpec := { name := "fnXtea", fn := fun _ => fun
  | [d1, d2] => { results := [.lit (.bool true)], args := [d1, d2] }
  | _ => none }
def fnXteaRow : OpenClaim := { program := "ytbepfmhkccgnfaa", sum := "7db4293d7a546882cd8dccbd7f83f141bcf804ea967ff62c22982964547269f7", func := "loop.example/pub-g03044/laws.FnXtea", spec := "fnXtea", apart := false }
def FnXteaSaid : Prop := fnXteaRow.holds Try.pinned (OpenSpec.ofChange fnXteaSpec)

/-- ITS FALSE NEIGHBOUR: 'it returns false'. Refute it at one input. -/
def fnXteaWrong : ChangeSpec := { name := "fnXtea", fn := fun _ => fun
  | [d1, d2] => { results := [.lit (.bool false)], args := [d1, d2] }
  | _ => none }
def FnXteaWrongFalsely : Prop := fnXteaRow.holds Try.pinned (OpenSpec.ofChange fnXteaWrong)

/- THE SECOND FORM. 'bulk': how many values and letters a reading holds, each counted each time it is reached (what is shared counts as often as it is met; a slice's spare places count too). A statement '..UptoSaid' is the law's where the arguments, and the package variables that the reading takes, are together of bulk at most 1048576: NARROWER than '..Said'. Prove '..Said' where nothing that the law and all that it calls make is longer than what came in: it says more and counts as full. Else prove '..UptoSaid'. A law counts once. -/
mutual
def uptoBulk {H : Type} : DataW H → Nat
  | .lit (.string bytes) => bytes.length + 1
  | .lit _ => 1
  | .nil => 1
  | .ptr d => uptoBulk d + 1
  | .slice elems spare => uptoBulkAll elems + uptoBulkAll spare + 1
  | .agg parts => uptoBulkAll parts + 1
  | .iface _ d => uptoBulk d + 1
  | .map entries => uptoBulkEntries entries + 1
  | .held _ => 1
def uptoBulkAll {H : Type} : List (DataW H) → Nat
  | [] => 0
  | d :: r => uptoBulk d + uptoBulkAll r
def uptoBulkEntries {H : Type} : List (Lit × DataW H) → Nat
  | [] => 0
  | x :: r => uptoBulkEntry x + uptoBulkEntries r
def uptoBulkEntry {H : Type} : Lit × DataW H → Nat
  | (.string bytes, d) => bytes.length + uptoBulk d + 1
  | (_, d) => uptoBulk d + 1
 end
def uptoSmall : (H : Type) → List (DataW H) → Bool := fun _ ds => decide (uptoBulkAll ds ≤ 1048576)
def OpenSpec.upto (s : _root_.Go.ChangeSpec) : _root_.Go.OpenSpec := { _root_.Go.OpenSpec.ofChange s with cond := some uptoSmall }

/-- 'laws.FnTea', WHERE WHAT IT READS IS OF BULK AT MOST 1048576: true; the input reads as it did. -/
def fnTeaUptoRow : OpenClaim := { program := "ytbepfmhkccgnfaa", sum := "7db4293d7a546882cd8dccbd7f83f141bcf804ea967ff62c22982964547269f7", func := "loop.example/pub-g03044/laws.FnTea", spec := "fnTea", apart := false, narrowed := true }
def FnTeaUptoSaid : Prop := fnTeaUptoRow.holds Try.pinned (OpenSpec.upto fnTeaSpec)

/-- 'laws.FnTeaBack', WHERE WHAT IT READS IS OF BULK AT MOST 1048576: true; the input reads as it did. -/
def fnTeaBackUptoRow : OpenClaim := { program := "ytbepfmhkccgnfaa", sum := "7db4293d7a546882cd8dccbd7f83f141bcf804ea967ff62c22982964547269f7", func := "loop.example/pub-g03044/laws.FnTeaBack", spec := "fnTeaBack", apart := false, narrowed := true }
def FnTeaBackUptoSaid : Prop := fnTeaBackUptoRow.holds Try.pinned (OpenSpec.upto fnTeaBackSpec)

/-- 'laws.FnTeaRefused', WHERE WHAT IT READS IS OF BULK AT MOST 1048576: true; the input reads as it did. -/
def fnTeaRefusedUptoRow : OpenClaim := { program := "ytbepfmhkccgnfaa", sum := "7db4293d7a546882cd8dccbd7f83f141bcf804ea967ff62c22982964547269f7", func := "loop.example/pub-g03044/laws.FnTeaRefused", spec := "fnTeaRefused", apart := false, narrowed := true }
def FnTeaRefusedUptoSaid : Prop := fnTeaRefusedUptoRow.holds Try.pinned (OpenSpec.upto fnTeaRefusedSpec)

/-- 'laws.FnXtea', WHERE WHAT IT READS IS OF BULK AT MOST 1048576: true; the input reads as it did. -/
def fnXteaUptoRow : OpenClaim := { program := "ytbepfmhkccgnfaa", sum := "7db4293d7a546882cd8dccbd7f83f141bcf804ea967ff62c22982964547269f7", func := "loop.example/pub-g03044/laws.FnXtea", spec := "fnXtea", apart := false, narrowed := true }
def FnXteaUptoSaid : Prop := fnXteaUptoRow.holds Try.pinned (OpenSpec.upto fnXteaSpec)

end Rows
end Go.Proofs.Ytbepfmhkccgnfaa
