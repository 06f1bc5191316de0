/-
  No cell of these rows narrows 'for every input' (looked for: loops, veiled, ifaces, maps, wideKeys, modest, calm, conditions, laid).
  DERIVED. THE GIVEN ROWS OF THIS SEAT. 3 by the template 'for every input the law returns true; each argument reads behind the call as it read before'; 0 by the template 'total and deterministic' (their statements: YtpmlofllkhpihaaTotals.lean).
  GIVEN WITH THE SEED: the statements are not yours to turn. If you find one false, say at which input.
  Laid BY PROGRAM, IN A SANDBOX (cutbox-rows.mjs): the forced cells as the released guide's own fill.sh prints them over the translation 1133575158bcc8a0… (all of the seat's roots in one cut). By AI agents, Wed Nov 11 2026. No macro, syntax, notation, axiom, sorry.
-/
import Derived.Test.YtpmlofllkhpihaaChecked
import GoSem.Claim
import GoSem.ClaimJoined
import GoSem.ClaimMapViews
import Derived.JoinedTies
import Derived.KernelRfl
namespace Go.Proofs.Ytpmlofllkhpihaa
/- THE CELL 'sum', in the pinned program and in every row, IS THE sha256 OF THE DUMP (.gsa) THAT YtpmlofllkhpihaaProg.lean LOADS. Nothing in Lean hashes anything: it is a label: what it is worth is what the hold of that sum in a sandbox is worth. -/
noncomputable def Try.pinned : Pinned := { name := "ytpmlofllkhpihaa", sum := "1133575158bcc8a0112dd9f2acb189ee1c27672e710b5514aa0be1dc4b1e1ffb", checked := Try.checked }
namespace Rows
def none {H : Type} : Left H := { results := [], args := [] }

/-- 'laws.FnFamilyName': WHATEVER THE INPUT: true; the input reads as it did. -/
def fnFamilyNameSpec : ChangeSpec := { name := "fnFamilyName", fn := fun _ => fun
  | [d] => { results := [.lit (.bool true)], args := [d] }
  | _ => none }
def fnFamilyNameRow : OpenClaim := { program := "ytpmlofllkhpihaa", sum := "1133575158bcc8a0112dd9f2acb189ee1c27672e710b5514aa0be1dc4b1e1ffb", func := "given.example/pub-punchcutter/laws.FnFamilyName", spec := "fnFamilyName", apart := false }
def FnFamilyNameSaid : Prop := fnFamilyNameRow.holds Try.pinned (OpenSpec.ofChange fnFamilyNameSpec)

/-- ITS FALSE NEIGHBOUR: 'it returns false'. Refute it at one input. -/
def fnFamilyNameWrong : ChangeSpec := { name := "fnFamilyName", fn := fun _ => fun
  | [d] => { results := [.lit (.bool false)], args := [d] }
  | _ => none }
def FnFamilyNameWrongFalsely : Prop := fnFamilyNameRow.holds Try.pinned (OpenSpec.ofChange fnFamilyNameWrong)

/-- 'laws.FnRuneSet': WHATEVER THE INPUT: true; the input reads as it did. -/
def fnRuneSetSpec : ChangeSpec := { name := "fnRuneSet", fn := fun _ => fun
  | [d1, d2] => { results := [.lit (.bool true)], args := [d1, d2] }
  | _ => none }
def fnRuneSetRow : OpenClaim := { program := "ytpmlofllkhpihaa", sum := "1133575158bcc8a0112dd9f2acb189ee1c27672e710b5514aa0be1dc4b1e1ffb", func := "given.example/pub-punchcutter/laws.FnRuneSet", spec := "fnRuneSet", apart := false }
def FnRuneSetSaid : Prop := fnRuneSetRow.holds Try.pinned (OpenSpec.ofChange fnRuneSetSpec)

/-- ITS FALSE NEIGHBOUR: 'it returns false'. Refute it at one input. -/
def fnRuneSetWrong : ChangeSpec := { name := "fnRuneSet", fn := fun _ => fun
  | [d1, d2] => { results := [.lit (.bool false)], args := [d1, d2] }
  | _ => none }
def FnRuneSetWrongFalsely : Prop := fnRuneSetRow.holds Try.pinned (OpenSpec.ofChange fnRuneSetWrong)

/-- 'laws.FnIndicKinds': WHATEVER THE INPUT: true; the input reads as it did. -/
def fnIndicKindsSpec : ChangeSpec := { name := "fnIndicKinds", fn := fun _ => fun
  | [d1, d2] => { results := [.lit (.bool true)], args := [d1, d2] }
  | _ => none }
def fnIndicKindsRow : OpenClaim := { program := "ytpmlofllkhpihaa", sum := "1133575158bcc8a0112dd9f2acb189ee1c27672e710b5514aa0be1dc4b1e1ffb", func := "given.example/pub-punchcutter/laws.FnIndicKinds", spec := "fnIndicKinds", apart := false }
def FnIndicKindsSaid : Prop := fnIndicKindsRow.holds Try.pinned (OpenSpec.ofChange fnIndicKindsSpec)

/-- ITS FALSE NEIGHBOUR: 'it returns false'. Refute it at one input. -/
def fnIndicKindsWrong : ChangeSpec := { name := "fnIndicKinds", fn := fun _ => fun
  | [d1, d2] => { results := [.lit (.bool false)], args := [d1, d2] }
  | _ => none }
def FnIndicKindsWrongFalsely : Prop := fnIndicKindsRow.holds Try.pinned (OpenSpec.ofChange fnIndicKindsWrong)

/- THE SECOND FORM. 'bulk': how many values and letters a reading holds, each counted each time it is reached (what is shared counts as often as it is met; a slice's spare places count too). A statement '..UptoSaid' is the law's where the arguments, and the package variables that the reading takes, are together of bulk at most 1048576: NARROWER than '..Said'. Prove '..Said' where nothing that the law and all that it calls make is longer than what came in: it says more and counts as full. Else prove '..UptoSaid'. A law counts once. -/
mutual
def uptoBulk {H : Type} : DataW H → Nat
  | .lit (.string bytes) => bytes.length + 1
  | .lit _ => 1
  | .nil => 1
  | .ptr d => uptoBulk d + 1
  | .slice elems spare => uptoBulkAll elems + uptoBulkAll spare + 1
  | .agg parts => uptoBulkAll parts + 1
  | .iface _ d => uptoBulk d + 1
  | .map entries => uptoBulkEntries entries + 1
  | .held _ => 1
def uptoBulkAll {H : Type} : List (DataW H) → Nat
  | [] => 0
  | d :: r => uptoBulk d + uptoBulkAll r
def uptoBulkEntries {H : Type} : List (Lit × DataW H) → Nat
  | [] => 0
  | x :: r => uptoBulkEntry x + uptoBulkEntries r
def uptoBulkEntry {H : Type} : Lit × DataW H → Nat
  | (.string bytes, d) => bytes.length + uptoBulk d + 1
  | (_, d) => uptoBulk d + 1
 end
def uptoSmall : (H : Type) → List (DataW H) → Bool := fun _ ds => decide (uptoBulkAll ds ≤ 1048576)
def OpenSpec.upto (s : _root_.Go.ChangeSpec) : _root_.Go.OpenSpec := { _root_.Go.OpenSpec.ofChange s with cond := some uptoSmall }

/-- 'laws.FnFamilyName', WHERE WHAT IT READS IS OF BULK AT MOST 1048576: true; the input reads as it did. -/
def fnFamilyNameUptoRow : OpenClaim := { program := "ytpmlofllkhpihaa", sum := "1133575158bcc8a0112dd9f2acb189ee1c27672e710b5514aa0be1dc4b1e1ffb", func := "given.example/pub-punchcutter/laws.FnFamilyName", spec := "fnFamilyName", apart := false, narrowed := true }
def FnFamilyNameUptoSaid : Prop := fnFamilyNameUptoRow.holds Try.pinned (OpenSpec.upto fnFamilyNameSpec)

/-- 'laws.FnRuneSet', WHERE WHAT IT READS IS OF BULK AT MOST 1048576: true; the input reads as it did. -/
def fnRuneSetUptoRow : OpenClaim := { program := "ytpmlofllkhpihaa", sum := "1133575158bcc8a0112dd9f2acb189ee1c27672e710b5514aa0be1dc4b1e1ffb", func := "given.example/pub-punchcutter/laws.FnRuneSet", spec := "fnRuneSet", apart := false, narrowed := true }
def FnRuneSetUptoSaid : Prop := fnRuneSetUptoRow.holds Try.pinned (OpenSpec.upto fnRuneSetSpec)

/-- 'laws.FnIndicKinds', WHERE WHAT IT READS IS OF BULK AT MOST 1048576: true; the input reads as it did. -/
def fnIndicKindsUptoRow : OpenClaim := { program := "ytpmlofllkhpihaa", sum := "1133575158bcc8a0112dd9f2acb189ee1c27672e710b5514aa0be1dc4b1e1ffb", func := "given.example/pub-punchcutter/laws.FnIndicKinds", spec := "fnIndicKinds", apart := false, narrowed := true }
def FnIndicKindsUptoSaid : Prop := fnIndicKindsUptoRow.holds Try.pinned (OpenSpec.upto fnIndicKindsSpec)

end Rows
end Go.Proofs.Ytpmlofllkhpihaa
