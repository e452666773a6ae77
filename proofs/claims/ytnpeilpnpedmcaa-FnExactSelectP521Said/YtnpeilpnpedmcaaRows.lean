/-
  No cell of these rows narrows 'for every input' (looked for: loops, veiled, ifaces, maps, wideKeys, modest, calm, conditions, laid).
  DERIVED. THE GIVEN ROWS OF THIS SEAT. 4 by the template 'for every input the law returns true; each argument reads behind the call as it read before'; 0 by the template 'total and deterministic' (their statements: YtnpeilpnpedmcaaTotals.lean).
  GIVEN WITH THE SEED: the statements are not yours to turn. If you find one false, say at which input.
  Laid BY PROGRAM, IN A SANDBOX (cutbox-rows.mjs): the forced cells as the released guide's own fill.sh prints them over the translation 5b4c46822fde53b7… (all of the seat's roots in one cut). By AI agents, Wed Nov 11 2026. No macro, syntax, notation, axiom, sorry.
-/
import Derived.Test.YtnpeilpnpedmcaaChecked
import GoSem.Claim
import GoSem.ClaimJoined
import GoSem.ClaimMapViews
import Derived.JoinedTies
import Derived.KernelRfl
namespace Go.Proofs.Ytnpeilpnpedmcaa
/- THE CELL 'sum', in the pinned program and in every row, IS THE sha256 OF THE DUMP (.gsa) THAT YtnpeilpnpedmcaaProg.lean LOADS. Nothing in Lean hashes anything: it is a label: what it is worth is what the hold of that sum in a sandbox is worth. -/
noncomputable def Try.pinned : Pinned := { name := "ytnpeilpnpedmcaa", sum := "5b4c46822fde53b7f607978a405c1868b85528e3c55d1cc1e45061432cc55b55", checked := Try.checked }
namespace Rows
def none {H : Type} : Left H := { results := [], args := [] }

/-- 'laws.FnExactSelectP521': WHATEVER THE INPUT: true; the input reads as it did. -/
def fnExactSelectP521Spec : ChangeSpec := { name := "fnExactSelectP521", fn := fun _ => fun
  | [d1, d2, d3] => { results := [.lit (.bool true)], args := [d1, d2, d3] }
  | _ => none }
def fnExactSelectP521Row : OpenClaim := { program := "ytnpeilpnpedmcaa", sum := "5b4c46822fde53b7f607978a405c1868b85528e3c55d1cc1e45061432cc55b55", func := "loop.example/pub-g03334/laws.FnExactSelectP521", spec := "fnExactSelectP521", apart := false }
def FnExactSelectP521Said : Prop := fnExactSelectP521Row.holds Try.pinned (OpenSpec.ofChange fnExactSelectP521Spec)

/-- ITS FALSE NEIGHBOUR: 'it returns false'. Refute it at one input. -/
def fnExactSelectP521Wrong : ChangeSpec := { name := "fnExactSelectP521", fn := fun _ => fun
  | [d1, d2, d3] => { results := [.lit (.bool false)], args := [d1, d2, d3] }
  | _ => none }
def FnExactSelectP521WrongFalsely : Prop := fnExactSelectP521Row.holds Try.pinned (OpenSpec.ofChange fnExactSelectP521Wrong)

/-- 'laws.FnExactAddP521': WHATEVER THE INPUT: true; the input reads as it did. -/
def fnExactAddP521Spec : ChangeSpec := { name := "fnExactAddP521", fn := fun _ => fun
  | [d1, d2] => { results := [.lit (.bool true)], args := [d1, d2] }
  | _ => none }
def fnExactAddP521Row : OpenClaim := { program := "ytnpeilpnpedmcaa", sum := "5b4c46822fde53b7f607978a405c1868b85528e3c55d1cc1e45061432cc55b55", func := "loop.example/pub-g03334/laws.FnExactAddP521", spec := "fnExactAddP521", inPlace := ["math/bits.Add64", "math/bits.Sub64"], apart := false }
def FnExactAddP521Said : Prop := fnExactAddP521Row.holds Try.pinned (OpenSpec.ofChange fnExactAddP521Spec)

/-- ITS FALSE NEIGHBOUR: 'it returns false'. Refute it at one input. -/
def fnExactAddP521Wrong : ChangeSpec := { name := "fnExactAddP521", fn := fun _ => fun
  | [d1, d2] => { results := [.lit (.bool false)], args := [d1, d2] }
  | _ => none }
def FnExactAddP521WrongFalsely : Prop := fnExactAddP521Row.holds Try.pinned (OpenSpec.ofChange fnExactAddP521Wrong)

/-- 'laws.FnAddTurnedP521': WHATEVER THE INPUT: true; the input reads as it did. -/
def fnAddTurnedP521Spec : ChangeSpec := { name := "fnAddTurnedP521", fn := fun _ => fun
  | [d1, d2] => { results := [.lit (.bool true)], args := [d1, d2] }
  | _ => none }
def fnAddTurnedP521Row : OpenClaim := { program := "ytnpeilpnpedmcaa", sum := "5b4c46822fde53b7f607978a405c1868b85528e3c55d1cc1e45061432cc55b55", func := "loop.example/pub-g03334/laws.FnAddTurnedP521", spec := "fnAddTurnedP521", inPlace := ["math/bits.Add64", "math/bits.Sub64"], apart := false }
def FnAddTurnedP521Said : Prop := fnAddTurnedP521Row.holds Try.pinned (OpenSpec.ofChange fnAddTurnedP521Spec)

/-- ITS FALSE NEIGHBOUR: 'it returns false'. Refute it at one input. -/
def fnAddTurnedP521Wrong : ChangeSpec := { name := "fnAddTurnedP521", fn := fun _ => fun
  | [d1, d2] => { results := [.lit (.bool false)], args := [d1, d2] }
  | _ => none }
def FnAddTurnedP521WrongFalsely : Prop := fnAddTurnedP521Row.holds Try.pinned (OpenSpec.ofChange fnAddTurnedP521Wrong)

/-- 'laws.FnSubBackP521': WHATEVER THE INPUT: true; the input reads as it did. -/
def fnSubBackP521Spec : ChangeSpec := { name := "fnSubBackP521", fn := fun _ => fun
  | [d1, d2] => { results := [.lit (.bool true)], args := [d1, d2] }
  | _ => none }
def fnSubBackP521Row : OpenClaim := { program := "ytnpeilpnpedmcaa", sum := "5b4c46822fde53b7f607978a405c1868b85528e3c55d1cc1e45061432cc55b55", func := "loop.example/pub-g03334/laws.FnSubBackP521", spec := "fnSubBackP521", inPlace := ["math/bits.Sub64", "math/bits.Add64"], apart := false }
def FnSubBackP521Said : Prop := fnSubBackP521Row.holds Try.pinned (OpenSpec.ofChange fnSubBackP521Spec)

/-- ITS FALSE NEIGHBOUR: 'it returns false'. Refute it at one input. -/
def fnSubBackP521Wrong : ChangeSpec := { name := "fnSubBackP521", fn := fun _ => fun
  | [d1, d2] => { results := [.lit (.bool false)], args := [d1, d2] }
  | _ => none }
def FnSubBackP521WrongFalsely : Prop := fnSubBackP521Row.holds Try.pinned (OpenSpec.ofChange fnSubBackP521Wrong)

/- THE SECOND FORM. 'bulk': how many values and letters a reading holds, each counted each time it is reached (what is shared counts as often as it is met; a slice's spare places count too). A statement '..UptoSaid' is the law's where the arguments, and the package variables that the reading takes, are together of bulk at most 1048576: NARROWER than '..Said'. Prove '..Said' where nothing that the law and all that it calls make is longer than what came in: it says more and counts as full. Else prove '..UptoSaid'. A law counts once. -/
mutual
def uptoBulk {H : Type} : DataW H → Nat
  | .lit (.string bytes) => bytes.length + 1
  | .lit _ => 1
  | .nil => 1
  | .ptr d => uptoBulk d + 1
  | .slice elems spare => uptoBulkAll elems + uptoBulkAll spare + 1
  | .agg parts => uptoBulkAll parts + 1
  | .iface _ d => uptoBulk d + 1
  | .map entries => uptoBulkEntries entries + 1
  | .held _ => 1
def uptoBulkAll {H : Type} : List (DataW H) → Nat
  | [] => 0
  | d :: r => uptoBulk d + uptoBulkAll r
def uptoBulkEntries {H : Type} : List (Lit × DataW H) → Nat
  | [] => 0
  | x :: r => uptoBulkEntry x + uptoBulkEntries r
def uptoBulkEntry {H : Type} : Lit × DataW H → Nat
  | (.string bytes, d) => bytes.length + uptoBulk d + 1
  | (_, d) => uptoBulk d + 1
 end
def uptoSmall : (H : Type) → List (DataW H) → Bool := fun _ ds => decide (uptoBulkAll ds ≤ 1048576)
def OpenSpec.upto (s : _root_.Go.ChangeSpec) : _root_.Go.OpenSpec := { _root_.Go.OpenSpec.ofChange s with cond := some uptoSmall }

/-- 'laws.FnExactSelectP521', WHERE WHAT IT READS IS OF BULK AT MOST 1048576: true; the input reads as it did. -/
def fnExactSelectP521UptoRow : OpenClaim := { program := "ytnpeilpnpedmcaa", sum := "5b4c46822fde53b7f607978a405c1868b85528e3c55d1cc1e45061432cc55b55", func := "loop.example/pub-g03334/laws.FnExactSelectP521", spec := "fnExactSelectP521", apart := false, narrowed := true }
def FnExactSelectP521UptoSaid : Prop := fnExactSelectP521UptoRow.holds Try.pinned (OpenSpec.upto fnExactSelectP521Spec)

/-- 'laws.FnExactAddP521', WHERE WHAT IT READS IS OF BULK AT MOST 1048576: true; the input reads as it did. -/
def fnExactAddP521UptoRow : OpenClaim := { program := "ytnpeilpnpedmcaa", sum := "5b4c46822fde53b7f607978a405c1868b85528e3c55d1cc1e45061432cc55b55", func := "loop.example/pub-g03334/laws.FnExactAddP521", spec := "fnExactAddP521", inPlace := ["math/bits.Add64", "math/bits.Sub64"], apart := false, narrowed := true }
def FnExactAddP521UptoSaid : Prop := fnExactAddP521UptoRow.holds Try.pinned (OpenSpec.upto fnExactAddP521Spec)

/-- 'laws.FnAddTurnedP521', WHERE WHAT IT READS IS OF BULK AT MOST 1048576: true; the input reads as it did. -/
def fnAddTurnedP521UptoRow : OpenClaim := { program := "ytnpeilpnpedmcaa", sum := "5b4c46822fde53b7f607978a405c1868b85528e3c55d1cc1e45061432cc55b55", func := "loop.example/pub-g03334/laws.FnAddTurnedP521", spec := "fnAddTurnedP521", inPlace := ["math/bits.Add64", "math/bits.Sub64"], apart := false, narrowed := true }
def FnAddTurnedP521UptoSaid : Prop := fnAddTurnedP521UptoRow.holds Try.pinned (OpenSpec.upto fnAddTurnedP521Spec)

/-- 'laws.FnSubBackP521', WHERE WHAT IT READS IS OF BULK AT MOST 1048576: true; the input reads as it did. -/
def fnSubBackP521UptoRow : OpenClaim := { program := "ytnpeilpnpedmcaa", sum := "5b4c46822fde53b7f607978a405c1868b85528e3c55d1cc1e45061432cc55b55", func := "loop.example/pub-g03334/laws.FnSubBackP521", spec := "fnSubBackP521", inPlace := ["math/bits.Sub64", "math/bits.Add64"], apart := false, narrowed := true }
def FnSubBackP521UptoSaid : Prop := fnSubBackP521UptoRow.holds Try.pinned (OpenSpec.upto fnSubBackP521Spec)

end Rows
end Go.Proofs.Ytnpeilpnpedmcaa
