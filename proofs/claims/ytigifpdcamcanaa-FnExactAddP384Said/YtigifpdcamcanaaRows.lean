/-
  No cell of these rows narrows 'for every input' (looked for: loops, veiled, ifaces, maps, wideKeys, modest, calm, conditions, laid).
  DERIVED. THE GIVEN ROWS OF THIS SEAT. 6 by the template 'for every input the law returns true; each argument reads behind the call as it read before'; 0 by the template 'total and deterministic' (their statements: YtigifpdcamcanaaTotals.lean).
  GIVEN WITH THE SEED: the statements are not yours to turn. If you find one false, say at which input.
  Laid BY PROGRAM, IN A SANDBOX (cutbox-rows.mjs): the forced cells as the released guide's own fill.sh prints them over the translation ca85736ec221ea33… (all of the seat's roots in one cut). By AI agents, Wed Nov 11 2026. No macro, syntax, notation, axiom, sorry.
-/
import Derived.Test.YtigifpdcamcanaaChecked
import GoSem.Claim
import GoSem.ClaimJoined
import GoSem.ClaimMapViews
import Derived.JoinedTies
import Derived.KernelRfl
namespace Go.Proofs.Ytigifpdcamcanaa
/- THE CELL 'sum', in the pinned program and in every row, IS THE sha256 OF THE DUMP (.gsa) THAT YtigifpdcamcanaaProg.lean LOADS. Nothing in Lean hashes anything: it is a label: what it is worth is what the hold of that sum in a sandbox is worth. -/
noncomputable def Try.pinned : Pinned := { name := "ytigifpdcamcanaa", sum := "ca85736ec221ea332e2afec685d75a584a0913a8ea968bdc5ca4491c04632e28", checked := Try.checked }
namespace Rows
def none {H : Type} : Left H := { results := [], args := [] }

/-- 'laws.FnExactSelectP384': WHATEVER THE INPUT: true; the input reads as it did. -/
def fnExactSelectP384Spec : ChangeSpec := { name := "fnExactSelectP384", fn := fun _ => fun
  | [d1, d2, d3] => { results := [.lit (.bool true)], args := [d1, d2, d3] }
  | _ => none }
def fnExactSelectP384Row : OpenClaim := { program := "ytigifpdcamcanaa", sum := "ca85736ec221ea332e2afec685d75a584a0913a8ea968bdc5ca4491c04632e28", func := "loop.example/pub-g03334/laws.FnExactSelectP384", spec := "fnExactSelectP384", apart := false }
def FnExactSelectP384Said : Prop := fnExactSelectP384Row.holds Try.pinned (OpenSpec.ofChange fnExactSelectP384Spec)

/-- ITS FALSE NEIGHBOUR: 'it returns false'. Refute it at one input. -/
def fnExactSelectP384Wrong : ChangeSpec := { name := "fnExactSelectP384", fn := fun _ => fun
  | [d1, d2, d3] => { results := [.lit (.bool false)], args := [d1, d2, d3] }
  | _ => none }
def FnExactSelectP384WrongFalsely : Prop := fnExactSelectP384Row.holds Try.pinned (OpenSpec.ofChange fnExactSelectP384Wrong)

/-- 'laws.FnExactAddP384': WHATEVER THE INPUT: true; the input reads as it did. -/
def fnExactAddP384Spec : ChangeSpec := { name := "fnExactAddP384", fn := fun _ => fun
  | [d1, d2] => { results := [.lit (.bool true)], args := [d1, d2] }
  | _ => none }
def fnExactAddP384Row : OpenClaim := { program := "ytigifpdcamcanaa", sum := "ca85736ec221ea332e2afec685d75a584a0913a8ea968bdc5ca4491c04632e28", func := "loop.example/pub-g03334/laws.FnExactAddP384", spec := "fnExactAddP384", inPlace := ["math/bits.Add64", "math/bits.Sub64"], apart := false }
def FnExactAddP384Said : Prop := fnExactAddP384Row.holds Try.pinned (OpenSpec.ofChange fnExactAddP384Spec)

/-- ITS FALSE NEIGHBOUR: 'it returns false'. Refute it at one input. -/
def fnExactAddP384Wrong : ChangeSpec := { name := "fnExactAddP384", fn := fun _ => fun
  | [d1, d2] => { results := [.lit (.bool false)], args := [d1, d2] }
  | _ => none }
def FnExactAddP384WrongFalsely : Prop := fnExactAddP384Row.holds Try.pinned (OpenSpec.ofChange fnExactAddP384Wrong)

/-- 'laws.FnAddTurnedP384': WHATEVER THE INPUT: true; the input reads as it did. -/
def fnAddTurnedP384Spec : ChangeSpec := { name := "fnAddTurnedP384", fn := fun _ => fun
  | [d1, d2] => { results := [.lit (.bool true)], args := [d1, d2] }
  | _ => none }
def fnAddTurnedP384Row : OpenClaim := { program := "ytigifpdcamcanaa", sum := "ca85736ec221ea332e2afec685d75a584a0913a8ea968bdc5ca4491c04632e28", func := "loop.example/pub-g03334/laws.FnAddTurnedP384", spec := "fnAddTurnedP384", inPlace := ["math/bits.Add64", "math/bits.Sub64"], apart := false }
def FnAddTurnedP384Said : Prop := fnAddTurnedP384Row.holds Try.pinned (OpenSpec.ofChange fnAddTurnedP384Spec)

/-- ITS FALSE NEIGHBOUR: 'it returns false'. Refute it at one input. -/
def fnAddTurnedP384Wrong : ChangeSpec := { name := "fnAddTurnedP384", fn := fun _ => fun
  | [d1, d2] => { results := [.lit (.bool false)], args := [d1, d2] }
  | _ => none }
def FnAddTurnedP384WrongFalsely : Prop := fnAddTurnedP384Row.holds Try.pinned (OpenSpec.ofChange fnAddTurnedP384Wrong)

/-- 'laws.FnSubBackP384': WHATEVER THE INPUT: true; the input reads as it did. -/
def fnSubBackP384Spec : ChangeSpec := { name := "fnSubBackP384", fn := fun _ => fun
  | [d1, d2] => { results := [.lit (.bool true)], args := [d1, d2] }
  | _ => none }
def fnSubBackP384Row : OpenClaim := { program := "ytigifpdcamcanaa", sum := "ca85736ec221ea332e2afec685d75a584a0913a8ea968bdc5ca4491c04632e28", func := "loop.example/pub-g03334/laws.FnSubBackP384", spec := "fnSubBackP384", inPlace := ["math/bits.Sub64", "math/bits.Add64"], apart := false }
def FnSubBackP384Said : Prop := fnSubBackP384Row.holds Try.pinned (OpenSpec.ofChange fnSubBackP384Spec)

/-- ITS FALSE NEIGHBOUR: 'it returns false'. Refute it at one input. -/
def fnSubBackP384Wrong : ChangeSpec := { name := "fnSubBackP384", fn := fun _ => fun
  | [d1, d2] => { results := [.lit (.bool false)], args := [d1, d2] }
  | _ => none }
def FnSubBackP384WrongFalsely : Prop := fnSubBackP384Row.holds Try.pinned (OpenSpec.ofChange fnSubBackP384Wrong)

/-- 'laws.FnExactBytesP384': WHATEVER THE INPUT: true; the input reads as it did. -/
def fnExactBytesP384Spec : ChangeSpec := { name := "fnExactBytesP384", fn := fun _ => fun
  | [d1, d2] => { results := [.lit (.bool true)], args := [d1, d2] }
  | _ => none }
def fnExactBytesP384Row : OpenClaim := { program := "ytigifpdcamcanaa", sum := "ca85736ec221ea332e2afec685d75a584a0913a8ea968bdc5ca4491c04632e28", func := "loop.example/pub-g03334/laws.FnExactBytesP384", spec := "fnExactBytesP384", apart := false }
def FnExactBytesP384Said : Prop := fnExactBytesP384Row.holds Try.pinned (OpenSpec.ofChange fnExactBytesP384Spec)

/-- ITS FALSE NEIGHBOUR: 'it returns false'. Refute it at one input. -/
def fnExactBytesP384Wrong : ChangeSpec := { name := "fnExactBytesP384", fn := fun _ => fun
  | [d1, d2] => { results := [.lit (.bool false)], args := [d1, d2] }
  | _ => none }
def FnExactBytesP384WrongFalsely : Prop := fnExactBytesP384Row.holds Try.pinned (OpenSpec.ofChange fnExactBytesP384Wrong)

/-- 'laws.FnBytesBackP384': WHATEVER THE INPUT: true; the input reads as it did. -/
def fnBytesBackP384Spec : ChangeSpec := { name := "fnBytesBackP384", fn := fun _ => fun
  | [d] => { results := [.lit (.bool true)], args := [d] }
  | _ => none }
def fnBytesBackP384Row : OpenClaim := { program := "ytigifpdcamcanaa", sum := "ca85736ec221ea332e2afec685d75a584a0913a8ea968bdc5ca4491c04632e28", func := "loop.example/pub-g03334/laws.FnBytesBackP384", spec := "fnBytesBackP384", apart := false }
def FnBytesBackP384Said : Prop := fnBytesBackP384Row.holds Try.pinned (OpenSpec.ofChange fnBytesBackP384Spec)

/-- ITS FALSE NEIGHBOUR: 'it returns false'. Refute it at one input. -/
def fnBytesBackP384Wrong : ChangeSpec := { name := "fnBytesBackP384", fn := fun _ => fun
  | [d] => { results := [.lit (.bool false)], args := [d] }
  | _ => none }
def FnBytesBackP384WrongFalsely : Prop := fnBytesBackP384Row.holds Try.pinned (OpenSpec.ofChange fnBytesBackP384Wrong)

/- THE SECOND FORM. 'bulk': how many values and letters a reading holds, each counted each time it is reached (what is shared counts as often as it is met; a slice's spare places count too). A statement '..UptoSaid' is the law's where the arguments, and the package variables that the reading takes, are together of bulk at most 1048576: NARROWER than '..Said'. Prove '..Said' where nothing that the law and all that it calls make is longer than what came in: it says more and counts as full. Else prove '..UptoSaid'. A law counts once. -/
mutual
def uptoBulk {H : Type} : DataW H → Nat
  | .lit (.string bytes) => bytes.length + 1
  | .lit _ => 1
  | .nil => 1
  | .ptr d => uptoBulk d + 1
  | .slice elems spare => uptoBulkAll elems + uptoBulkAll spare + 1
  | .agg parts => uptoBulkAll parts + 1
  | .iface _ d => uptoBulk d + 1
  | .map entries => uptoBulkEntries entries + 1
  | .held _ => 1
def uptoBulkAll {H : Type} : List (DataW H) → Nat
  | [] => 0
  | d :: r => uptoBulk d + uptoBulkAll r
def uptoBulkEntries {H : Type} : List (Lit × DataW H) → Nat
  | [] => 0
  | x :: r => uptoBulkEntry x + uptoBulkEntries r
def uptoBulkEntry {H : Type} : Lit × DataW H → Nat
  | (.string bytes, d) => bytes.length + uptoBulk d + 1
  | (_, d) => uptoBulk d + 1
 end
def uptoSmall : (H : Type) → List (DataW H) → Bool := fun _ ds => decide (uptoBulkAll ds ≤ 1048576)
def OpenSpec.upto (s : _root_.Go.ChangeSpec) : _root_.Go.OpenSpec := { _root_.Go.OpenSpec.ofChange s with cond := some uptoSmall }

/-- 'laws.FnExactSelectP384', WHERE WHAT IT READS IS OF BULK AT MOST 1048576: true; the input reads as it did. -/
def fnExactSelectP384UptoRow : OpenClaim := { program := "ytigifpdcamcanaa", sum := "ca85736ec221ea332e2afec685d75a584a0913a8ea968bdc5ca4491c04632e28", func := "loop.example/pub-g03334/laws.FnExactSelectP384", spec := "fnExactSelectP384", apart := false, narrowed := true }
def FnExactSelectP384UptoSaid : Prop := fnExactSelectP384UptoRow.holds Try.pinned (OpenSpec.upto fnExactSelectP384Spec)

/-- 'laws.FnExactAddP384', WHERE WHAT IT READS IS OF BULK AT MOST 1048576: true; the input reads as it did. -/
def fnExactAddP384UptoRow : OpenClaim := { program := "ytigifpdcamcanaa", sum := "ca85736ec221ea332e2afec685d75a584a0913a8ea968bdc5ca4491c04632e28", func := "loop.example/pub-g03334/laws.FnExactAddP384", spec := "fnExactAddP384", inPlace := ["math/bits.Add64", "math/bits.Sub64"], apart := false, narrowed := true }
def FnExactAddP384UptoSaid : Prop := fnExactAddP384UptoRow.holds Try.pinned (OpenSpec.upto fnExactAddP384Spec)

/-- 'laws.FnAddTurnedP384', WHERE WHAT IT READS IS OF BULK AT MOST 1048576: true; the input reads as it did. -/
def fnAddTurnedP384UptoRow : OpenClaim := { program := "ytigifpdcamcanaa", sum := "ca85736ec221ea332e2afec685d75a584a0913a8ea968bdc5ca4491c04632e28", func := "loop.example/pub-g03334/laws.FnAddTurnedP384", spec := "fnAddTurnedP384", inPlace := ["math/bits.Add64", "math/bits.Sub64"], apart := false, narrowed := true }
def FnAddTurnedP384UptoSaid : Prop := fnAddTurnedP384UptoRow.holds Try.pinned (OpenSpec.upto fnAddTurnedP384Spec)

/-- 'laws.FnSubBackP384', WHERE WHAT IT READS IS OF BULK AT MOST 1048576: true; the input reads as it did. -/
def fnSubBackP384UptoRow : OpenClaim := { program := "ytigifpdcamcanaa", sum := "ca85736ec221ea332e2afec685d75a584a0913a8ea968bdc5ca4491c04632e28", func := "loop.example/pub-g03334/laws.FnSubBackP384", spec := "fnSubBackP384", inPlace := ["math/bits.Sub64", "math/bits.Add64"], apart := false, narrowed := true }
def FnSubBackP384UptoSaid : Prop := fnSubBackP384UptoRow.holds Try.pinned (OpenSpec.upto fnSubBackP384Spec)

/-- 'laws.FnExactBytesP384', WHERE WHAT IT READS IS OF BULK AT MOST 1048576: true; the input reads as it did. -/
def fnExactBytesP384UptoRow : OpenClaim := { program := "ytigifpdcamcanaa", sum := "ca85736ec221ea332e2afec685d75a584a0913a8ea968bdc5ca4491c04632e28", func := "loop.example/pub-g03334/laws.FnExactBytesP384", spec := "fnExactBytesP384", apart := false, narrowed := true }
def FnExactBytesP384UptoSaid : Prop := fnExactBytesP384UptoRow.holds Try.pinned (OpenSpec.upto fnExactBytesP384Spec)

/-- 'laws.FnBytesBackP384', WHERE WHAT IT READS IS OF BULK AT MOST 1048576: true; the input reads as it did. -/
def fnBytesBackP384UptoRow : OpenClaim := { program := "ytigifpdcamcanaa", sum := "ca85736ec221ea332e2afec685d75a584a0913a8ea968bdc5ca4491c04632e28", func := "loop.example/pub-g03334/laws.FnBytesBackP384", spec := "fnBytesBackP384", apart := false, narrowed := true }
def FnBytesBackP384UptoSaid : Prop := fnBytesBackP384UptoRow.holds Try.pinned (OpenSpec.upto fnBytesBackP384Spec)

end Rows
end Go.Proofs.Ytigifpdcamcanaa
