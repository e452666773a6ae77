/-
  No cell of these rows narrows 'for every input' (looked for: loops, veiled, ifaces, maps, wideKeys, modest, calm, conditions, laid).
  DERIVED. THE GIVEN ROWS OF THIS SEAT. 6 by the template 'for every input the law returns true; each argument reads behind the call as it read before'; 0 by the template 'total and deterministic' (their statements: YtmfeieadhhcbmaaTotals.lean).
  GIVEN WITH THE SEED: the statements are not yours to turn. If you find one false, say at which input.
  Laid BY PROGRAM, IN A SANDBOX (cutbox-rows.mjs): the forced cells as the released guide's own fill.sh prints them over the translation d16c4c428b598167… (all of the seat's roots in one cut). By AI agents, Wed Nov 11 2026. No macro, syntax, notation, axiom, sorry.
-/
import Derived.Test.YtmfeieadhhcbmaaChecked
import GoSem.Claim
import GoSem.ClaimJoined
import GoSem.ClaimMapViews
import Derived.JoinedTies
import Derived.KernelRfl
namespace Go.Proofs.Ytmfeieadhhcbmaa
/- THE CELL 'sum', in the pinned program and in every row, IS THE sha256 OF THE DUMP (.gsa) THAT YtmfeieadhhcbmaaProg.lean LOADS. Nothing in Lean hashes anything: it is a label: what it is worth is what the hold of that sum in a sandbox is worth. -/
noncomputable def Try.pinned : Pinned := { name := "ytmfeieadhhcbmaa", sum := "d16c4c428b598167bdbb54b9d7201f7188426d6330602a4be99d32ccfee2522c", checked := Try.checked }
namespace Rows
def none {H : Type} : Left H := { results := [], args := [] }

/-- 'laws.FnExactSelectP224': WHATEVER THE INPUT: true; the input reads as it did. -/
def fnExactSelectP224Spec : ChangeSpec := { name := "fnExactSelectP224", fn := fun _ => fun
  | [d1, d2, d3] => { results := [.lit (.bool true)], args := [d1, d2, d3] }
  | _ => none }
def fnExactSelectP224Row : OpenClaim := { program := "ytmfeieadhhcbmaa", sum := "d16c4c428b598167bdbb54b9d7201f7188426d6330602a4be99d32ccfee2522c", func := "loop.example/pub-g03334/laws.FnExactSelectP224", spec := "fnExactSelectP224", apart := false }
def FnExactSelectP224Said : Prop := fnExactSelectP224Row.holds Try.pinned (OpenSpec.ofChange fnExactSelectP224Spec)

/-- ITS FALSE NEIGHBOUR: 'it returns false'. Refute it at one input. -/
def fnExactSelectP224Wrong : ChangeSpec := { name := "fnExactSelectP224", fn := fun _ => fun
  | [d1, d2, d3] => { results := [.lit (.bool false)], args := [d1, d2, d3] }
  | _ => none }
def FnExactSelectP224WrongFalsely : Prop := fnExactSelectP224Row.holds Try.pinned (OpenSpec.ofChange fnExactSelectP224Wrong)

/-- 'laws.FnExactAddP224': WHATEVER THE INPUT: true; the input reads as it did. -/
def fnExactAddP224Spec : ChangeSpec := { name := "fnExactAddP224", fn := fun _ => fun
  | [d1, d2] => { results := [.lit (.bool true)], args := [d1, d2] }
  | _ => none }
def fnExactAddP224Row : OpenClaim := { program := "ytmfeieadhhcbmaa", sum := "d16c4c428b598167bdbb54b9d7201f7188426d6330602a4be99d32ccfee2522c", func := "loop.example/pub-g03334/laws.FnExactAddP224", spec := "fnExactAddP224", inPlace := ["math/bits.Add64", "math/bits.Sub64"], apart := false }
def FnExactAddP224Said : Prop := fnExactAddP224Row.holds Try.pinned (OpenSpec.ofChange fnExactAddP224Spec)

/-- ITS FALSE NEIGHBOUR: 'it returns false'. Refute it at one input. -/
def fnExactAddP224Wrong : ChangeSpec := { name := "fnExactAddP224", fn := fun _ => fun
  | [d1, d2] => { results := [.lit (.bool false)], args := [d1, d2] }
  | _ => none }
def FnExactAddP224WrongFalsely : Prop := fnExactAddP224Row.holds Try.pinned (OpenSpec.ofChange fnExactAddP224Wrong)

/-- 'laws.FnExactBytesP224': WHATEVER THE INPUT: true; the input reads as it did. -/
def fnExactBytesP224Spec : ChangeSpec := { name := "fnExactBytesP224", fn := fun _ => fun
  | [d1, d2] => { results := [.lit (.bool true)], args := [d1, d2] }
  | _ => none }
def fnExactBytesP224Row : OpenClaim := { program := "ytmfeieadhhcbmaa", sum := "d16c4c428b598167bdbb54b9d7201f7188426d6330602a4be99d32ccfee2522c", func := "loop.example/pub-g03334/laws.FnExactBytesP224", spec := "fnExactBytesP224", apart := false }
def FnExactBytesP224Said : Prop := fnExactBytesP224Row.holds Try.pinned (OpenSpec.ofChange fnExactBytesP224Spec)

/-- ITS FALSE NEIGHBOUR: 'it returns false'. Refute it at one input. -/
def fnExactBytesP224Wrong : ChangeSpec := { name := "fnExactBytesP224", fn := fun _ => fun
  | [d1, d2] => { results := [.lit (.bool false)], args := [d1, d2] }
  | _ => none }
def FnExactBytesP224WrongFalsely : Prop := fnExactBytesP224Row.holds Try.pinned (OpenSpec.ofChange fnExactBytesP224Wrong)

/-- 'laws.FnAddTurnedP224': WHATEVER THE INPUT: true; the input reads as it did. -/
def fnAddTurnedP224Spec : ChangeSpec := { name := "fnAddTurnedP224", fn := fun _ => fun
  | [d1, d2] => { results := [.lit (.bool true)], args := [d1, d2] }
  | _ => none }
def fnAddTurnedP224Row : OpenClaim := { program := "ytmfeieadhhcbmaa", sum := "d16c4c428b598167bdbb54b9d7201f7188426d6330602a4be99d32ccfee2522c", func := "loop.example/pub-g03334/laws.FnAddTurnedP224", spec := "fnAddTurnedP224", inPlace := ["math/bits.Add64", "math/bits.Sub64"], apart := false }
def FnAddTurnedP224Said : Prop := fnAddTurnedP224Row.holds Try.pinned (OpenSpec.ofChange fnAddTurnedP224Spec)

/-- ITS FALSE NEIGHBOUR: 'it returns false'. Refute it at one input. -/
def fnAddTurnedP224Wrong : ChangeSpec := { name := "fnAddTurnedP224", fn := fun _ => fun
  | [d1, d2] => { results := [.lit (.bool false)], args := [d1, d2] }
  | _ => none }
def FnAddTurnedP224WrongFalsely : Prop := fnAddTurnedP224Row.holds Try.pinned (OpenSpec.ofChange fnAddTurnedP224Wrong)

/-- 'laws.FnSubBackP224': WHATEVER THE INPUT: true; the input reads as it did. -/
def fnSubBackP224Spec : ChangeSpec := { name := "fnSubBackP224", fn := fun _ => fun
  | [d1, d2] => { results := [.lit (.bool true)], args := [d1, d2] }
  | _ => none }
def fnSubBackP224Row : OpenClaim := { program := "ytmfeieadhhcbmaa", sum := "d16c4c428b598167bdbb54b9d7201f7188426d6330602a4be99d32ccfee2522c", func := "loop.example/pub-g03334/laws.FnSubBackP224", spec := "fnSubBackP224", inPlace := ["math/bits.Sub64", "math/bits.Add64"], apart := false }
def FnSubBackP224Said : Prop := fnSubBackP224Row.holds Try.pinned (OpenSpec.ofChange fnSubBackP224Spec)

/-- ITS FALSE NEIGHBOUR: 'it returns false'. Refute it at one input. -/
def fnSubBackP224Wrong : ChangeSpec := { name := "fnSubBackP224", fn := fun _ => fun
  | [d1, d2] => { results := [.lit (.bool false)], args := [d1, d2] }
  | _ => none }
def FnSubBackP224WrongFalsely : Prop := fnSubBackP224Row.holds Try.pinned (OpenSpec.ofChange fnSubBackP224Wrong)

/-- 'laws.FnBytesBackP224': WHATEVER THE INPUT: true; the input reads as it did. -/
def fnBytesBackP224Spec : ChangeSpec := { name := "fnBytesBackP224", fn := fun _ => fun
  | [d] => { results := [.lit (.bool true)], args := [d] }
  | _ => none }
def fnBytesBackP224Row : OpenClaim := { program := "ytmfeieadhhcbmaa", sum := "d16c4c428b598167bdbb54b9d7201f7188426d6330602a4be99d32ccfee2522c", func := "loop.example/pub-g03334/laws.FnBytesBackP224", spec := "fnBytesBackP224", apart := false }
def FnBytesBackP224Said : Prop := fnBytesBackP224Row.holds Try.pinned (OpenSpec.ofChange fnBytesBackP224Spec)

/-- ITS FALSE NEIGHBOUR: 'it returns false'. Refute it at one input. -/
def fnBytesBackP224Wrong : ChangeSpec := { name := "fnBytesBackP224", fn := fun _ => fun
  | [d] => { results := [.lit (.bool false)], args := [d] }
  | _ => none }
def FnBytesBackP224WrongFalsely : Prop := fnBytesBackP224Row.holds Try.pinned (OpenSpec.ofChange fnBytesBackP224Wrong)

/- THE SECOND FORM. 'bulk': how many values and letters a reading holds, each counted each time it is reached (what is shared counts as often as it is met; a slice's spare places count too). A statement '..UptoSaid' is the law's where the arguments, and the package variables that the reading takes, are together of bulk at most 1048576: NARROWER than '..Said'. Prove '..Said' where nothing that the law and all that it calls make is longer than what came in: it says more and counts as full. Else prove '..UptoSaid'. A law counts once. -/
mutual
def uptoBulk {H : Type} : DataW H → Nat
  | .lit (.string bytes) => bytes.length + 1
  | .lit _ => 1
  | .nil => 1
  | .ptr d => uptoBulk d + 1
  | .slice elems spare => uptoBulkAll elems + uptoBulkAll spare + 1
  | .agg parts => uptoBulkAll parts + 1
  | .iface _ d => uptoBulk d + 1
  | .map entries => uptoBulkEntries entries + 1
  | .held _ => 1
def uptoBulkAll {H : Type} : List (DataW H) → Nat
  | [] => 0
  | d :: r => uptoBulk d + uptoBulkAll r
def uptoBulkEntries {H : Type} : List (Lit × DataW H) → Nat
  | [] => 0
  | x :: r => uptoBulkEntry x + uptoBulkEntries r
def uptoBulkEntry {H : Type} : Lit × DataW H → Nat
  | (.string bytes, d) => bytes.length + uptoBulk d + 1
  | (_, d) => uptoBulk d + 1
 end
def uptoSmall : (H : Type) → List (DataW H) → Bool := fun _ ds => decide (uptoBulkAll ds ≤ 1048576)
def OpenSpec.upto (s : _root_.Go.ChangeSpec) : _root_.Go.OpenSpec := { _root_.Go.OpenSpec.ofChange s with cond := some uptoSmall }

/-- 'laws.FnExactSelectP224', WHERE WHAT IT READS IS OF BULK AT MOST 1048576: true; the input reads as it did. -/
def fnExactSelectP224UptoRow : OpenClaim := { program := "ytmfeieadhhcbmaa", sum := "d16c4c428b598167bdbb54b9d7201f7188426d6330602a4be99d32ccfee2522c", func := "loop.example/pub-g03334/laws.FnExactSelectP224", spec := "fnExactSelectP224", apart := false, narrowed := true }
def FnExactSelectP224UptoSaid : Prop := fnExactSelectP224UptoRow.holds Try.pinned (OpenSpec.upto fnExactSelectP224Spec)

/-- 'laws.FnExactAddP224', WHERE WHAT IT READS IS OF BULK AT MOST 1048576: true; the input reads as it did. -/
def fnExactAddP224UptoRow : OpenClaim := { program := "ytmfeieadhhcbmaa", sum := "d16c4c428b598167bdbb54b9d7201f7188426d6330602a4be99d32ccfee2522c", func := "loop.example/pub-g03334/laws.FnExactAddP224", spec := "fnExactAddP224", inPlace := ["math/bits.Add64", "math/bits.Sub64"], apart := false, narrowed := true }
def FnExactAddP224UptoSaid : Prop := fnExactAddP224UptoRow.holds Try.pinned (OpenSpec.upto fnExactAddP224Spec)

/-- 'laws.FnExactBytesP224', WHERE WHAT IT READS IS OF BULK AT MOST 1048576: true; the input reads as it did. -/
def fnExactBytesP224UptoRow : OpenClaim := { program := "ytmfeieadhhcbmaa", sum := "d16c4c428b598167bdbb54b9d7201f7188426d6330602a4be99d32ccfee2522c", func := "loop.example/pub-g03334/laws.FnExactBytesP224", spec := "fnExactBytesP224", apart := false, narrowed := true }
def FnExactBytesP224UptoSaid : Prop := fnExactBytesP224UptoRow.holds Try.pinned (OpenSpec.upto fnExactBytesP224Spec)

/-- 'laws.FnAddTurnedP224', WHERE WHAT IT READS IS OF BULK AT MOST 1048576: true; the input reads as it did. -/
def fnAddTurnedP224UptoRow : OpenClaim := { program := "ytmfeieadhhcbmaa", sum := "d16c4c428b598167bdbb54b9d7201f7188426d6330602a4be99d32ccfee2522c", func := "loop.example/pub-g03334/laws.FnAddTurnedP224", spec := "fnAddTurnedP224", inPlace := ["math/bits.Add64", "math/bits.Sub64"], apart := false, narrowed := true }
def FnAddTurnedP224UptoSaid : Prop := fnAddTurnedP224UptoRow.holds Try.pinned (OpenSpec.upto fnAddTurnedP224Spec)

/-- 'laws.FnSubBackP224', WHERE WHAT IT READS IS OF BULK AT MOST 1048576: true; the input reads as it did. -/
def fnSubBackP224UptoRow : OpenClaim := { program := "ytmfeieadhhcbmaa", sum := "d16c4c428b598167bdbb54b9d7201f7188426d6330602a4be99d32ccfee2522c", func := "loop.example/pub-g03334/laws.FnSubBackP224", spec := "fnSubBackP224", inPlace := ["math/bits.Sub64", "math/bits.Add64"], apart := false, narrowed := true }
def FnSubBackP224UptoSaid : Prop := fnSubBackP224UptoRow.holds Try.pinned (OpenSpec.upto fnSubBackP224Spec)

/-- 'laws.FnBytesBackP224', WHERE WHAT IT READS IS OF BULK AT MOST 1048576: true; the input reads as it did. -/
def fnBytesBackP224UptoRow : OpenClaim := { program := "ytmfeieadhhcbmaa", sum := "d16c4c428b598167bdbb54b9d7201f7188426d6330602a4be99d32ccfee2522c", func := "loop.example/pub-g03334/laws.FnBytesBackP224", spec := "fnBytesBackP224", apart := false, narrowed := true }
def FnBytesBackP224UptoSaid : Prop := fnBytesBackP224UptoRow.holds Try.pinned (OpenSpec.upto fnBytesBackP224Spec)

end Rows
end Go.Proofs.Ytmfeieadhhcbmaa
