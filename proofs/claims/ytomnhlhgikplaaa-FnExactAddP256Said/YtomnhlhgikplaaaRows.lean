/-
  No cell of these rows narrows 'for every input' (looked for: loops, veiled, ifaces, maps, wideKeys, modest, calm, conditions, laid).
  DERIVED. THE GIVEN ROWS OF THIS SEAT. 6 by the template 'for every input the law returns true; each argument reads behind the call as it read before'; 0 by the template 'total and deterministic' (their statements: YtomnhlhgikplaaaTotals.lean).
  GIVEN WITH THE SEED: the statements are not yours to turn. If you find one false, say at which input.
  Laid BY PROGRAM, IN A SANDBOX (cutbox-rows.mjs): the forced cells as the released guide's own fill.sh prints them over the translation fb9b81a2c5005ab2… (all of the seat's roots in one cut). By AI agents, Wed Nov 11 2026. No macro, syntax, notation, axiom, sorry.
-/
import Derived.Test.YtomnhlhgikplaaaChecked
import GoSem.Claim
import GoSem.ClaimJoined
import GoSem.ClaimMapViews
import Derived.JoinedTies
import Derived.KernelRfl
namespace Go.Proofs.Ytomnhlhgikplaaa
/- THE CELL 'sum', in the pinned program and in every row, IS THE sha256 OF THE DUMP (.gsa) THAT YtomnhlhgikplaaaProg.lean LOADS. Nothing in Lean hashes anything: it is a label: what it is worth is what the hold of that sum in a sandbox is worth. -/
noncomputable def Try.pinned : Pinned := { name := "ytomnhlhgikplaaa", sum := "fb9b81a2c5005ab21b13efed5af3064b18aa5a16273c0b7fbfcfeb22cc092eb3", checked := Try.checked }
namespace Rows
def none {H : Type} : Left H := { results := [], args := [] }

/-- 'laws.FnExactSelectP256': WHATEVER THE INPUT: true; the input reads as it did. -/
def fnExactSelectP256Spec : ChangeSpec := { name := "fnExactSelectP256", fn := fun _ => fun
  | [d1, d2, d3] => { results := [.lit (.bool true)], args := [d1, d2, d3] }
  | _ => none }
def fnExactSelectP256Row : OpenClaim := { program := "ytomnhlhgikplaaa", sum := "fb9b81a2c5005ab21b13efed5af3064b18aa5a16273c0b7fbfcfeb22cc092eb3", func := "loop.example/pub-g03334/laws.FnExactSelectP256", spec := "fnExactSelectP256", apart := false }
def FnExactSelectP256Said : Prop := fnExactSelectP256Row.holds Try.pinned (OpenSpec.ofChange fnExactSelectP256Spec)

/-- ITS FALSE NEIGHBOUR: 'it returns false'. Refute it at one input. -/
def fnExactSelectP256Wrong : ChangeSpec := { name := "fnExactSelectP256", fn := fun _ => fun
  | [d1, d2, d3] => { results := [.lit (.bool false)], args := [d1, d2, d3] }
  | _ => none }
def FnExactSelectP256WrongFalsely : Prop := fnExactSelectP256Row.holds Try.pinned (OpenSpec.ofChange fnExactSelectP256Wrong)

/-- 'laws.FnExactAddP256': WHATEVER THE INPUT: true; the input reads as it did. -/
def fnExactAddP256Spec : ChangeSpec := { name := "fnExactAddP256", fn := fun _ => fun
  | [d1, d2] => { results := [.lit (.bool true)], args := [d1, d2] }
  | _ => none }
def fnExactAddP256Row : OpenClaim := { program := "ytomnhlhgikplaaa", sum := "fb9b81a2c5005ab21b13efed5af3064b18aa5a16273c0b7fbfcfeb22cc092eb3", func := "loop.example/pub-g03334/laws.FnExactAddP256", spec := "fnExactAddP256", inPlace := ["math/bits.Add64", "math/bits.Sub64"], apart := false }
def FnExactAddP256Said : Prop := fnExactAddP256Row.holds Try.pinned (OpenSpec.ofChange fnExactAddP256Spec)

/-- ITS FALSE NEIGHBOUR: 'it returns false'. Refute it at one input. -/
def fnExactAddP256Wrong : ChangeSpec := { name := "fnExactAddP256", fn := fun _ => fun
  | [d1, d2] => { results := [.lit (.bool false)], args := [d1, d2] }
  | _ => none }
def FnExactAddP256WrongFalsely : Prop := fnExactAddP256Row.holds Try.pinned (OpenSpec.ofChange fnExactAddP256Wrong)

/-- 'laws.FnExactBytesP256': WHATEVER THE INPUT: true; the input reads as it did. -/
def fnExactBytesP256Spec : ChangeSpec := { name := "fnExactBytesP256", fn := fun _ => fun
  | [d1, d2] => { results := [.lit (.bool true)], args := [d1, d2] }
  | _ => none }
def fnExactBytesP256Row : OpenClaim := { program := "ytomnhlhgikplaaa", sum := "fb9b81a2c5005ab21b13efed5af3064b18aa5a16273c0b7fbfcfeb22cc092eb3", func := "loop.example/pub-g03334/laws.FnExactBytesP256", spec := "fnExactBytesP256", apart := false }
def FnExactBytesP256Said : Prop := fnExactBytesP256Row.holds Try.pinned (OpenSpec.ofChange fnExactBytesP256Spec)

/-- ITS FALSE NEIGHBOUR: 'it returns false'. Refute it at one input. -/
def fnExactBytesP256Wrong : ChangeSpec := { name := "fnExactBytesP256", fn := fun _ => fun
  | [d1, d2] => { results := [.lit (.bool false)], args := [d1, d2] }
  | _ => none }
def FnExactBytesP256WrongFalsely : Prop := fnExactBytesP256Row.holds Try.pinned (OpenSpec.ofChange fnExactBytesP256Wrong)

/-- 'laws.FnAddTurnedP256': WHATEVER THE INPUT: true; the input reads as it did. -/
def fnAddTurnedP256Spec : ChangeSpec := { name := "fnAddTurnedP256", fn := fun _ => fun
  | [d1, d2] => { results := [.lit (.bool true)], args := [d1, d2] }
  | _ => none }
def fnAddTurnedP256Row : OpenClaim := { program := "ytomnhlhgikplaaa", sum := "fb9b81a2c5005ab21b13efed5af3064b18aa5a16273c0b7fbfcfeb22cc092eb3", func := "loop.example/pub-g03334/laws.FnAddTurnedP256", spec := "fnAddTurnedP256", inPlace := ["math/bits.Add64", "math/bits.Sub64"], apart := false }
def FnAddTurnedP256Said : Prop := fnAddTurnedP256Row.holds Try.pinned (OpenSpec.ofChange fnAddTurnedP256Spec)

/-- ITS FALSE NEIGHBOUR: 'it returns false'. Refute it at one input. -/
def fnAddTurnedP256Wrong : ChangeSpec := { name := "fnAddTurnedP256", fn := fun _ => fun
  | [d1, d2] => { results := [.lit (.bool false)], args := [d1, d2] }
  | _ => none }
def FnAddTurnedP256WrongFalsely : Prop := fnAddTurnedP256Row.holds Try.pinned (OpenSpec.ofChange fnAddTurnedP256Wrong)

/-- 'laws.FnSubBackP256': WHATEVER THE INPUT: true; the input reads as it did. -/
def fnSubBackP256Spec : ChangeSpec := { name := "fnSubBackP256", fn := fun _ => fun
  | [d1, d2] => { results := [.lit (.bool true)], args := [d1, d2] }
  | _ => none }
def fnSubBackP256Row : OpenClaim := { program := "ytomnhlhgikplaaa", sum := "fb9b81a2c5005ab21b13efed5af3064b18aa5a16273c0b7fbfcfeb22cc092eb3", func := "loop.example/pub-g03334/laws.FnSubBackP256", spec := "fnSubBackP256", inPlace := ["math/bits.Sub64", "math/bits.Add64"], apart := false }
def FnSubBackP256Said : Prop := fnSubBackP256Row.holds Try.pinned (OpenSpec.ofChange fnSubBackP256Spec)

/-- ITS FALSE NEIGHBOUR: 'it returns false'. Refute it at one input. -/
def fnSubBackP256Wrong : ChangeSpec := { name := "fnSubBackP256", fn := fun _ => fun
  | [d1, d2] => { results := [.lit (.bool false)], args := [d1, d2] }
  | _ => none }
def FnSubBackP256WrongFalsely : Prop := fnSubBackP256Row.holds Try.pinned (OpenSpec.ofChange fnSubBackP256Wrong)

/-- 'laws.FnBytesBackP256': WHATEVER THE INPUT: true; the input reads as it did. -/
def fnBytesBackP256Spec : ChangeSpec := { name := "fnBytesBackP256", fn := fun _ => fun
  | [d] => { results := [.lit (.bool true)], args := [d] }
  | _ => none }
def fnBytesBackP256Row : OpenClaim := { program := "ytomnhlhgikplaaa", sum := "fb9b81a2c5005ab21b13efed5af3064b18aa5a16273c0b7fbfcfeb22cc092eb3", func := "loop.example/pub-g03334/laws.FnBytesBackP256", spec := "fnBytesBackP256", apart := false }
def FnBytesBackP256Said : Prop := fnBytesBackP256Row.holds Try.pinned (OpenSpec.ofChange fnBytesBackP256Spec)

/-- ITS FALSE NEIGHBOUR: 'it returns false'. Refute it at one input. -/
def fnBytesBackP256Wrong : ChangeSpec := { name := "fnBytesBackP256", fn := fun _ => fun
  | [d] => { results := [.lit (.bool false)], args := [d] }
  | _ => none }
def FnBytesBackP256WrongFalsely : Prop := fnBytesBackP256Row.holds Try.pinned (OpenSpec.ofChange fnBytesBackP256Wrong)

/- THE SECOND FORM. 'bulk': how many values and letters a reading holds, each counted each time it is reached (what is shared counts as often as it is met; a slice's spare places count too). A statement '..UptoSaid' is the law's where the arguments, and the package variables that the reading takes, are together of bulk at most 1048576: NARROWER than '..Said'. Prove '..Said' where nothing that the law and all that it calls make is longer than what came in: it says more and counts as full. Else prove '..UptoSaid'. A law counts once. -/
mutual
def uptoBulk {H : Type} : DataW H → Nat
  | .lit (.string bytes) => bytes.length + 1
  | .lit _ => 1
  | .nil => 1
  | .ptr d => uptoBulk d + 1
  | .slice elems spare => uptoBulkAll elems + uptoBulkAll spare + 1
  | .agg parts => uptoBulkAll parts + 1
  | .iface _ d => uptoBulk d + 1
  | .map entries => uptoBulkEntries entries + 1
  | .held _ => 1
def uptoBulkAll {H : Type} : List (DataW H) → Nat
  | [] => 0
  | d :: r => uptoBulk d + uptoBulkAll r
def uptoBulkEntries {H : Type} : List (Lit × DataW H) → Nat
  | [] => 0
  | x :: r => uptoBulkEntry x + uptoBulkEntries r
def uptoBulkEntry {H : Type} : Lit × DataW H → Nat
  | (.string bytes, d) => bytes.length + uptoBulk d + 1
  | (_, d) => uptoBulk d + 1
 end
def uptoSmall : (H : Type) → List (DataW H) → Bool := fun _ ds => decide (uptoBulkAll ds ≤ 1048576)
def OpenSpec.upto (s : _root_.Go.ChangeSpec) : _root_.Go.OpenSpec := { _root_.Go.OpenSpec.ofChange s with cond := some uptoSmall }

/-- 'laws.FnExactSelectP256', WHERE WHAT IT READS IS OF BULK AT MOST 1048576: true; the input reads as it did. -/
def fnExactSelectP256UptoRow : OpenClaim := { program := "ytomnhlhgikplaaa", sum := "fb9b81a2c5005ab21b13efed5af3064b18aa5a16273c0b7fbfcfeb22cc092eb3", func := "loop.example/pub-g03334/laws.FnExactSelectP256", spec := "fnExactSelectP256", apart := false, narrowed := true }
def FnExactSelectP256UptoSaid : Prop := fnExactSelectP256UptoRow.holds Try.pinned (OpenSpec.upto fnExactSelectP256Spec)

/-- 'laws.FnExactAddP256', WHERE WHAT IT READS IS OF BULK AT MOST 1048576: true; the input reads as it did. -/
def fnExactAddP256UptoRow : OpenClaim := { program := "ytomnhlhgikplaaa", sum := "fb9b81a2c5005ab21b13efed5af3064b18aa5a16273c0b7fbfcfeb22cc092eb3", func := "loop.example/pub-g03334/laws.FnExactAddP256", spec := "fnExactAddP256", inPlace := ["math/bits.Add64", "math/bits.Sub64"], apart := false, narrowed := true }
def FnExactAddP256UptoSaid : Prop := fnExactAddP256UptoRow.holds Try.pinned (OpenSpec.upto fnExactAddP256Spec)

/-- 'laws.FnExactBytesP256', WHERE WHAT IT READS IS OF BULK AT MOST 1048576: true; the input reads as it did. -/
def fnExactBytesP256UptoRow : OpenClaim := { program := "ytomnhlhgikplaaa", sum := "fb9b81a2c5005ab21b13efed5af3064b18aa5a16273c0b7fbfcfeb22cc092eb3", func := "loop.example/pub-g03334/laws.FnExactBytesP256", spec := "fnExactBytesP256", apart := false, narrowed := true }
def FnExactBytesP256UptoSaid : Prop := fnExactBytesP256UptoRow.holds Try.pinned (OpenSpec.upto fnExactBytesP256Spec)

/-- 'laws.FnAddTurnedP256', WHERE WHAT IT READS IS OF BULK AT MOST 1048576: true; the input reads as it did. -/
def fnAddTurnedP256UptoRow : OpenClaim := { program := "ytomnhlhgikplaaa", sum := "fb9b81a2c5005ab21b13efed5af3064b18aa5a16273c0b7fbfcfeb22cc092eb3", func := "loop.example/pub-g03334/laws.FnAddTurnedP256", spec := "fnAddTurnedP256", inPlace := ["math/bits.Add64", "math/bits.Sub64"], apart := false, narrowed := true }
def FnAddTurnedP256UptoSaid : Prop := fnAddTurnedP256UptoRow.holds Try.pinned (OpenSpec.upto fnAddTurnedP256Spec)

/-- 'laws.FnSubBackP256', WHERE WHAT IT READS IS OF BULK AT MOST 1048576: true; the input reads as it did. -/
def fnSubBackP256UptoRow : OpenClaim := { program := "ytomnhlhgikplaaa", sum := "fb9b81a2c5005ab21b13efed5af3064b18aa5a16273c0b7fbfcfeb22cc092eb3", func := "loop.example/pub-g03334/laws.FnSubBackP256", spec := "fnSubBackP256", inPlace := ["math/bits.Sub64", "math/bits.Add64"], apart := false, narrowed := true }
def FnSubBackP256UptoSaid : Prop := fnSubBackP256UptoRow.holds Try.pinned (OpenSpec.upto fnSubBackP256Spec)

/-- 'laws.FnBytesBackP256', WHERE WHAT IT READS IS OF BULK AT MOST 1048576: true; the input reads as it did. -/
def fnBytesBackP256UptoRow : OpenClaim := { program := "ytomnhlhgikplaaa", sum := "fb9b81a2c5005ab21b13efed5af3064b18aa5a16273c0b7fbfcfeb22cc092eb3", func := "loop.example/pub-g03334/laws.FnBytesBackP256", spec := "fnBytesBackP256", apart := false, narrowed := true }
def FnBytesBackP256UptoSaid : Prop := fnBytesBackP256UptoRow.holds Try.pinned (OpenSpec.upto fnBytesBackP256Spec)

end Rows
end Go.Proofs.Ytomnhlhgikplaaa
