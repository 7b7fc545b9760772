/-
  NARROWER THAN 'FOR EVERY INPUT', by the rows' own cells (each row's printed sentence says how): FnGroup: laid.
  DERIVED. THE GIVEN ROWS OF THIS SEAT. 1 by the template 'for every input the law returns true; each argument reads behind the call as it read before'; 0 by the template 'total and deterministic' (their statements: YtkibnongmkhbaaaGreatDoorTotals.lean).
  GIVEN WITH THE SEED: the statements are not yours to turn. If you find one false, say at which input.
  Laid BY PROGRAM, IN A SANDBOX (cutbox-rows.mjs): the forced cells as the released guide's own fill.sh prints them over the translation cc0ae3d3e48e05bb… (all of the seat's roots in one cut). By AI agents, Wed Nov 11 2026. No macro, syntax, notation, axiom, sorry.
-/
import Derived.Test.YtkibnongmkhbaaaGreatDoorChecked
import GoSem.Claim
import GoSem.ClaimJoined
import GoSem.ClaimMapViews
import Derived.JoinedTies
import Derived.KernelRfl
namespace Go.Proofs.YtkibnongmkhbaaaGreatDoor
/- THE CELL 'sum', in the pinned program and in every row, IS THE sha256 OF THE DUMP (.gsa) THAT YtkibnongmkhbaaaGreatDoorProg.lean LOADS. Nothing in Lean hashes anything: it is a label: what it is worth is what the hold of that sum in a sandbox is worth. -/
noncomputable def Tryz.pinned : Pinned := { name := "ytkibnongmkhbaaagreatdoor", sum := "cc0ae3d3e48e05bbb3d88aa2207d17b8278576c5d8812b16da654dcef67588ba", checked := Tryz.checked }
namespace Rows
def none {H : Type} : Left H := { results := [], args := [] }

/- WHAT THE LISTED PACKAGE-LEVEL VARIABLES READ AS WHEN THE CALL BEGINS. Each datum BY PROGRAM (the guide's laid-datum.mjs) off the statement by which the dump's own 'gosem.cut.vars' lays the variable. In a bare row this is a premise. The card (YtkibnongmkhbaaaGreatDoorCards.lean) ties it to the program's text. -/
def laid_loop_example_pub_g03349_pub_field_feZero {H : Type} : DataW H := .ptr (.agg [.lit (.int .u64 0), .lit (.int .u64 0), .lit (.int .u64 0), .lit (.int .u64 0), .lit (.int .u64 0)])
def laid_loop_example_pub_g03349_pub_field_feOne {H : Type} : DataW H := .ptr (.agg [.lit (.int .u64 1), .lit (.int .u64 0), .lit (.int .u64 0), .lit (.int .u64 0), .lit (.int .u64 0)])
def laid_loop_example_pub_g03349_pub_field_sqrtM1 {H : Type} : DataW H := .ptr (.agg [.lit (.int .u64 1718705420411056), .lit (.int .u64 234908883556509), .lit (.int .u64 2233514472574048), .lit (.int .u64 2117202627021982), .lit (.int .u64 765476049583133)])
def laid_loop_example_pub_g03349_pub_edwards25519_scalarMinusOneBytes {H : Type} : DataW H := .agg [.lit (.int .u8 236), .lit (.int .u8 211), .lit (.int .u8 245), .lit (.int .u8 92), .lit (.int .u8 26), .lit (.int .u8 99), .lit (.int .u8 18), .lit (.int .u8 88), .lit (.int .u8 214), .lit (.int .u8 156), .lit (.int .u8 247), .lit (.int .u8 162), .lit (.int .u8 222), .lit (.int .u8 249), .lit (.int .u8 222), .lit (.int .u8 20), .lit (.int .u8 0), .lit (.int .u8 0), .lit (.int .u8 0), .lit (.int .u8 0), .lit (.int .u8 0), .lit (.int .u8 0), .lit (.int .u8 0), .lit (.int .u8 0), .lit (.int .u8 0), .lit (.int .u8 0), .lit (.int .u8 0), .lit (.int .u8 0), .lit (.int .u8 0), .lit (.int .u8 0), .lit (.int .u8 0), .lit (.int .u8 16)]

/-- 'laws.FnGroup': WHATEVER THE INPUT: true; the input reads as it did. -/
def fnGroupSpec : ChangeSpec := { name := "fnGroup", vars := ["loop.example/pub-g03349/pub/field.feOne", "loop.example/pub-g03349/pub/field.sqrtM1", "loop.example/pub-g03349/pub/field.feZero", "loop.example/pub-g03349/pub/edwards25519.scalarMinusOneBytes"], fn := fun _ => fun
  | [d1, d2, d3, g1, g2, g3, g4] => { results := [.lit (.bool true)], args := [d1, d2, d3], vars := [g1, g2, g3, g4] }
  | _ => none }
def fnGroupRow : OpenClaim := { program := "ytkibnongmkhbaaagreatdoor", sum := "cc0ae3d3e48e05bbb3d88aa2207d17b8278576c5d8812b16da654dcef67588ba", func := "loop.example/pub-g03349/laws.FnGroup", spec := "fnGroup", inPlace := ["math/bits.Add64", "math/bits.Sub64"], named := ["loop.example/pub-g03349/pub/field.feOne", "loop.example/pub-g03349/pub/field.sqrtM1", "loop.example/pub-g03349/pub/field.feZero", "loop.example/pub-g03349/pub/edwards25519.scalarMinusOneBytes"], apart := false, laid := [("loop.example/pub-g03349/pub/field.feZero", laid_loop_example_pub_g03349_pub_field_feZero), ("loop.example/pub-g03349/pub/field.feOne", laid_loop_example_pub_g03349_pub_field_feOne), ("loop.example/pub-g03349/pub/field.sqrtM1", laid_loop_example_pub_g03349_pub_field_sqrtM1), ("loop.example/pub-g03349/pub/edwards25519.scalarMinusOneBytes", laid_loop_example_pub_g03349_pub_edwards25519_scalarMinusOneBytes)] }
def FnGroupSaid : Prop := fnGroupRow.holds Tryz.pinned (OpenSpec.ofChange fnGroupSpec)

/-- ITS FALSE NEIGHBOUR: 'it returns false'. Refute it at one input. -/
def fnGroupWrong : ChangeSpec := { name := "fnGroup", vars := ["loop.example/pub-g03349/pub/field.feOne", "loop.example/pub-g03349/pub/field.sqrtM1", "loop.example/pub-g03349/pub/field.feZero", "loop.example/pub-g03349/pub/edwards25519.scalarMinusOneBytes"], fn := fun _ => fun
  | [d1, d2, d3, g1, g2, g3, g4] => { results := [.lit (.bool false)], args := [d1, d2, d3], vars := [g1, g2, g3, g4] }
  | _ => none }
def FnGroupWrongFalsely : Prop := fnGroupRow.holds Tryz.pinned (OpenSpec.ofChange fnGroupWrong)

/- THE SECOND FORM. 'bulk': how many values and letters a reading holds, each counted each time it is reached (what is shared counts as often as it is met; a slice's spare places count too). A statement '..UptoSaid' is the law's where the arguments, and the package variables that the reading takes, are together of bulk at most 1048576: NARROWER than '..Said'. Prove '..Said' where nothing that the law and all that it calls make is longer than what came in: it says more and counts as full. Else prove '..UptoSaid'. A law counts once. -/
mutual
def uptoBulk {H : Type} : DataW H → Nat
  | .lit (.string bytes) => bytes.length + 1
  | .lit _ => 1
  | .nil => 1
  | .ptr d => uptoBulk d + 1
  | .slice elems spare => uptoBulkAll elems + uptoBulkAll spare + 1
  | .agg parts => uptoBulkAll parts + 1
  | .iface _ d => uptoBulk d + 1
  | .map entries => uptoBulkEntries entries + 1
  | .held _ => 1
def uptoBulkAll {H : Type} : List (DataW H) → Nat
  | [] => 0
  | d :: r => uptoBulk d + uptoBulkAll r
def uptoBulkEntries {H : Type} : List (Lit × DataW H) → Nat
  | [] => 0
  | x :: r => uptoBulkEntry x + uptoBulkEntries r
def uptoBulkEntry {H : Type} : Lit × DataW H → Nat
  | (.string bytes, d) => bytes.length + uptoBulk d + 1
  | (_, d) => uptoBulk d + 1
 end
def uptoSmall : (H : Type) → List (DataW H) → Bool := fun _ ds => decide (uptoBulkAll ds ≤ 1048576)
def OpenSpec.upto (s : _root_.Go.ChangeSpec) : _root_.Go.OpenSpec := { _root_.Go.OpenSpec.ofChange s with cond := some uptoSmall }

/-- 'laws.FnGroup', WHERE WHAT IT READS IS OF BULK AT MOST 1048576: true; the input reads as it did. -/
def fnGroupUptoRow : OpenClaim := { program := "ytkibnongmkhbaaagreatdoor", sum := "cc0ae3d3e48e05bbb3d88aa2207d17b8278576c5d8812b16da654dcef67588ba", func := "loop.example/pub-g03349/laws.FnGroup", spec := "fnGroup", inPlace := ["math/bits.Add64", "math/bits.Sub64"], named := ["loop.example/pub-g03349/pub/field.feOne", "loop.example/pub-g03349/pub/field.sqrtM1", "loop.example/pub-g03349/pub/field.feZero", "loop.example/pub-g03349/pub/edwards25519.scalarMinusOneBytes"], apart := false, laid := [("loop.example/pub-g03349/pub/field.feZero", laid_loop_example_pub_g03349_pub_field_feZero), ("loop.example/pub-g03349/pub/field.feOne", laid_loop_example_pub_g03349_pub_field_feOne), ("loop.example/pub-g03349/pub/field.sqrtM1", laid_loop_example_pub_g03349_pub_field_sqrtM1), ("loop.example/pub-g03349/pub/edwards25519.scalarMinusOneBytes", laid_loop_example_pub_g03349_pub_edwards25519_scalarMinusOneBytes)], narrowed := true }
def FnGroupUptoSaid : Prop := fnGroupUptoRow.holds Tryz.pinned (OpenSpec.upto fnGroupSpec)

end Rows
end Go.Proofs.YtkibnongmkhbaaaGreatDoor
