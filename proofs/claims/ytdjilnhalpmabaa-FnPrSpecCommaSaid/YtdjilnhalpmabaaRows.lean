/-
  No cell of these rows narrows 'for every input' (looked for: loops, veiled, ifaces, maps, wideKeys, modest, calm, conditions, laid).
  DERIVED. THE GIVEN ROWS OF THIS SEAT. 6 by the template 'for every input the law returns true; each argument reads behind the call as it read before'; 0 by the template 'total and deterministic' (their statements: YtdjilnhalpmabaaTotals.lean).
  GIVEN WITH THE SEED: the statements are not yours to turn. If you find one false, say at which input.
  Laid BY PROGRAM, IN A SANDBOX (cutbox-rows.mjs): the forced cells as the released guide's own fill.sh prints them over the translation 333c7a5f806c59ea… (all of the seat's roots in one cut). By AI agents, Wed Nov 11 2026. No macro, syntax, notation, axiom, sorry.
-/
import Derived.Test.YtdjilnhalpmabaaChecked
import GoSem.Claim
import GoSem.ClaimJoined
import GoSem.ClaimMapViews
import Derived.JoinedTies
import Derived.KernelRfl
namespace Go.Proofs.Ytdjilnhalpmabaa
/- THE CELL 'sum', in the pinned program and in every row, IS THE sha256 OF THE DUMP (.gsa) THAT YtdjilnhalpmabaaProg.lean LOADS. Nothing in Lean hashes anything: it is a label: what it is worth is what the hold of that sum in a sandbox is worth. -/
noncomputable def Try.pinned : Pinned := { name := "ytdjilnhalpmabaa", sum := "333c7a5f806c59ea634720a050a49cce47ee72d8a70c44c2a5f5211ffbb53071", checked := Try.checked }
namespace Rows
def none {H : Type} : Left H := { results := [], args := [] }

/-- 'laws.FnGjNullish': WHATEVER THE INPUT: true; the input reads as it did. -/
def fnGjNullishSpec : ChangeSpec := { name := "fnGjNullish", fn := fun _ => fun
  | [d] => { results := [.lit (.bool true)], args := [d] }
  | _ => none }
def fnGjNullishRow : OpenClaim := { program := "ytdjilnhalpmabaa", sum := "333c7a5f806c59ea634720a050a49cce47ee72d8a70c44c2a5f5211ffbb53071", func := "pub-tetrapla/laws.FnGjNullish", spec := "fnGjNullish", apart := false }
def FnGjNullishSaid : Prop := fnGjNullishRow.holds Try.pinned (OpenSpec.ofChange fnGjNullishSpec)

/-- ITS FALSE NEIGHBOUR: 'it returns false'. Refute it at one input. -/
def fnGjNullishWrong : ChangeSpec := { name := "fnGjNullish", fn := fun _ => fun
  | [d] => { results := [.lit (.bool false)], args := [d] }
  | _ => none }
def FnGjNullishWrongFalsely : Prop := fnGjNullishRow.holds Try.pinned (OpenSpec.ofChange fnGjNullishWrong)

/-- 'laws.FnGjSimpleName': WHATEVER THE INPUT: true; the input reads as it did. -/
def fnGjSimpleNameSpec : ChangeSpec := { name := "fnGjSimpleName", fn := fun _ => fun
  | [d] => { results := [.lit (.bool true)], args := [d] }
  | _ => none }
def fnGjSimpleNameRow : OpenClaim := { program := "ytdjilnhalpmabaa", sum := "333c7a5f806c59ea634720a050a49cce47ee72d8a70c44c2a5f5211ffbb53071", func := "pub-tetrapla/laws.FnGjSimpleName", spec := "fnGjSimpleName", apart := false }
def FnGjSimpleNameSaid : Prop := fnGjSimpleNameRow.holds Try.pinned (OpenSpec.ofChange fnGjSimpleNameSpec)

/-- ITS FALSE NEIGHBOUR: 'it returns false'. Refute it at one input. -/
def fnGjSimpleNameWrong : ChangeSpec := { name := "fnGjSimpleName", fn := fun _ => fun
  | [d] => { results := [.lit (.bool false)], args := [d] }
  | _ => none }
def FnGjSimpleNameWrongFalsely : Prop := fnGjSimpleNameRow.holds Try.pinned (OpenSpec.ofChange fnGjSimpleNameWrong)

/-- 'laws.FnJpDigits': WHATEVER THE INPUT: true; the input reads as it did. -/
def fnJpDigitsSpec : ChangeSpec := { name := "fnJpDigits", fn := fun _ => fun
  | [d] => { results := [.lit (.bool true)], args := [d] }
  | _ => none }
def fnJpDigitsRow : OpenClaim := { program := "ytdjilnhalpmabaa", sum := "333c7a5f806c59ea634720a050a49cce47ee72d8a70c44c2a5f5211ffbb53071", func := "pub-tetrapla/laws.FnJpDigits", spec := "fnJpDigits", apart := false }
def FnJpDigitsSaid : Prop := fnJpDigitsRow.holds Try.pinned (OpenSpec.ofChange fnJpDigitsSpec)

/-- ITS FALSE NEIGHBOUR: 'it returns false'. Refute it at one input. -/
def fnJpDigitsWrong : ChangeSpec := { name := "fnJpDigits", fn := fun _ => fun
  | [d] => { results := [.lit (.bool false)], args := [d] }
  | _ => none }
def FnJpDigitsWrongFalsely : Prop := fnJpDigitsRow.holds Try.pinned (OpenSpec.ofChange fnJpDigitsWrong)

/-- 'laws.FnPrSpecComma': WHATEVER THE INPUT: true; the input reads as it did. -/
def fnPrSpecCommaSpec : ChangeSpec := { name := "fnPrSpecComma", fn := fun _ => fun
  | [d1, d2, d3] => { results := [.lit (.bool true)], args := [d1, d2, d3] }
  | _ => none }
def fnPrSpecCommaRow : OpenClaim := { program := "ytdjilnhalpmabaa", sum := "333c7a5f806c59ea634720a050a49cce47ee72d8a70c44c2a5f5211ffbb53071", func := "pub-tetrapla/laws.FnPrSpecComma", spec := "fnPrSpecComma", recurses := true, apart := false }
def FnPrSpecCommaSaid : Prop := fnPrSpecCommaRow.holds Try.pinned (OpenSpec.ofChange fnPrSpecCommaSpec)

/-- ITS FALSE NEIGHBOUR: 'it returns false'. Refute it at one input. -/
def fnPrSpecCommaWrong : ChangeSpec := { name := "fnPrSpecComma", fn := fun _ => fun
  | [d1, d2, d3] => { results := [.lit (.bool false)], args := [d1, d2, d3] }
  | _ => none }
def FnPrSpecCommaWrongFalsely : Prop := fnPrSpecCommaRow.holds Try.pinned (OpenSpec.ofChange fnPrSpecCommaWrong)

/-- 'laws.FnGjValidNumberAt': WHATEVER THE INPUT: true; the input reads as it did. -/
def fnGjValidNumberAtSpec : ChangeSpec := { name := "fnGjValidNumberAt", fn := fun _ => fun
  | [d1, d2] => { results := [.lit (.bool true)], args := [d1, d2] }
  | _ => none }
def fnGjValidNumberAtRow : OpenClaim := { program := "ytdjilnhalpmabaa", sum := "333c7a5f806c59ea634720a050a49cce47ee72d8a70c44c2a5f5211ffbb53071", func := "pub-tetrapla/laws.FnGjValidNumberAt", spec := "fnGjValidNumberAt", apart := false }
def FnGjValidNumberAtSaid : Prop := fnGjValidNumberAtRow.holds Try.pinned (OpenSpec.ofChange fnGjValidNumberAtSpec)

/-- ITS FALSE NEIGHBOUR: 'it returns false'. Refute it at one input. -/
def fnGjValidNumberAtWrong : ChangeSpec := { name := "fnGjValidNumberAt", fn := fun _ => fun
  | [d1, d2] => { results := [.lit (.bool false)], args := [d1, d2] }
  | _ => none }
def FnGjValidNumberAtWrongFalsely : Prop := fnGjValidNumberAtRow.holds Try.pinned (OpenSpec.ofChange fnGjValidNumberAtWrong)

/-- 'laws.FnFjCheckNumber': WHATEVER THE INPUT: true; the input reads as it did. -/
def fnFjCheckNumberSpec : ChangeSpec := { name := "fnFjCheckNumber", fn := fun _ => fun
  | [d] => { results := [.lit (.bool true)], args := [d] }
  | _ => none }
def fnFjCheckNumberRow : OpenClaim := { program := "ytdjilnhalpmabaa", sum := "333c7a5f806c59ea634720a050a49cce47ee72d8a70c44c2a5f5211ffbb53071", func := "pub-tetrapla/laws.FnFjCheckNumber", spec := "fnFjCheckNumber", recurses := true, apart := false }
def FnFjCheckNumberSaid : Prop := fnFjCheckNumberRow.holds Try.pinned (OpenSpec.ofChange fnFjCheckNumberSpec)

/-- ITS FALSE NEIGHBOUR: 'it returns false'. Refute it at one input. -/
def fnFjCheckNumberWrong : ChangeSpec := { name := "fnFjCheckNumber", fn := fun _ => fun
  | [d] => { results := [.lit (.bool false)], args := [d] }
  | _ => none }
def FnFjCheckNumberWrongFalsely : Prop := fnFjCheckNumberRow.holds Try.pinned (OpenSpec.ofChange fnFjCheckNumberWrong)

/- THE SECOND FORM. 'bulk': how many values and letters a reading holds, each counted each time it is reached (what is shared counts as often as it is met; a slice's spare places count too). A statement '..UptoSaid' is the law's where the arguments, and the package variables that the reading takes, are together of bulk at most 1048576: NARROWER than '..Said'. Prove '..Said' where nothing that the law and all that it calls make is longer than what came in: it says more and counts as full. Else prove '..UptoSaid'. A law counts once. -/
mutual
def uptoBulk {H : Type} : DataW H → Nat
  | .lit (.string bytes) => bytes.length + 1
  | .lit _ => 1
  | .nil => 1
  | .ptr d => uptoBulk d + 1
  | .slice elems spare => uptoBulkAll elems + uptoBulkAll spare + 1
  | .agg parts => uptoBulkAll parts + 1
  | .iface _ d => uptoBulk d + 1
  | .map entries => uptoBulkEntries entries + 1
  | .held _ => 1
def uptoBulkAll {H : Type} : List (DataW H) → Nat
  | [] => 0
  | d :: r => uptoBulk d + uptoBulkAll r
def uptoBulkEntries {H : Type} : List (Lit × DataW H) → Nat
  | [] => 0
  | x :: r => uptoBulkEntry x + uptoBulkEntries r
def uptoBulkEntry {H : Type} : Lit × DataW H → Nat
  | (.string bytes, d) => bytes.length + uptoBulk d + 1
  | (_, d) => uptoBulk d + 1
 end
def uptoSmall : (H : Type) → List (DataW H) → Bool := fun _ ds => decide (uptoBulkAll ds ≤ 1048576)
def OpenSpec.upto (s : _root_.Go.ChangeSpec) : _root_.Go.OpenSpec := { _root_.Go.OpenSpec.ofChange s with cond := some uptoSmall }

/-- 'laws.FnGjNullish', WHERE WHAT IT READS IS OF BULK AT MOST 1048576: true; the input reads as it did. -/
def fnGjNullishUptoRow : OpenClaim := { program := "ytdjilnhalpmabaa", sum := "333c7a5f806c59ea634720a050a49cce47ee72d8a70c44c2a5f5211ffbb53071", func := "pub-tetrapla/laws.FnGjNullish", spec := "fnGjNullish", apart := false, narrowed := true }
def FnGjNullishUptoSaid : Prop := fnGjNullishUptoRow.holds Try.pinned (OpenSpec.upto fnGjNullishSpec)

/-- 'laws.FnGjSimpleName', WHERE WHAT IT READS IS OF BULK AT MOST 1048576: true; the input reads as it did. -/
def fnGjSimpleNameUptoRow : OpenClaim := { program := "ytdjilnhalpmabaa", sum := "333c7a5f806c59ea634720a050a49cce47ee72d8a70c44c2a5f5211ffbb53071", func := "pub-tetrapla/laws.FnGjSimpleName", spec := "fnGjSimpleName", apart := false, narrowed := true }
def FnGjSimpleNameUptoSaid : Prop := fnGjSimpleNameUptoRow.holds Try.pinned (OpenSpec.upto fnGjSimpleNameSpec)

/-- 'laws.FnJpDigits', WHERE WHAT IT READS IS OF BULK AT MOST 1048576: true; the input reads as it did. -/
def fnJpDigitsUptoRow : OpenClaim := { program := "ytdjilnhalpmabaa", sum := "333c7a5f806c59ea634720a050a49cce47ee72d8a70c44c2a5f5211ffbb53071", func := "pub-tetrapla/laws.FnJpDigits", spec := "fnJpDigits", apart := false, narrowed := true }
def FnJpDigitsUptoSaid : Prop := fnJpDigitsUptoRow.holds Try.pinned (OpenSpec.upto fnJpDigitsSpec)

/-- 'laws.FnPrSpecComma', WHERE WHAT IT READS IS OF BULK AT MOST 1048576: true; the input reads as it did. -/
def fnPrSpecCommaUptoRow : OpenClaim := { program := "ytdjilnhalpmabaa", sum := "333c7a5f806c59ea634720a050a49cce47ee72d8a70c44c2a5f5211ffbb53071", func := "pub-tetrapla/laws.FnPrSpecComma", spec := "fnPrSpecComma", recurses := true, apart := false, narrowed := true }
def FnPrSpecCommaUptoSaid : Prop := fnPrSpecCommaUptoRow.holds Try.pinned (OpenSpec.upto fnPrSpecCommaSpec)

/-- 'laws.FnGjValidNumberAt', WHERE WHAT IT READS IS OF BULK AT MOST 1048576: true; the input reads as it did. -/
def fnGjValidNumberAtUptoRow : OpenClaim := { program := "ytdjilnhalpmabaa", sum := "333c7a5f806c59ea634720a050a49cce47ee72d8a70c44c2a5f5211ffbb53071", func := "pub-tetrapla/laws.FnGjValidNumberAt", spec := "fnGjValidNumberAt", apart := false, narrowed := true }
def FnGjValidNumberAtUptoSaid : Prop := fnGjValidNumberAtUptoRow.holds Try.pinned (OpenSpec.upto fnGjValidNumberAtSpec)

/-- 'laws.FnFjCheckNumber', WHERE WHAT IT READS IS OF BULK AT MOST 1048576: true; the input reads as it did. -/
def fnFjCheckNumberUptoRow : OpenClaim := { program := "ytdjilnhalpmabaa", sum := "333c7a5f806c59ea634720a050a49cce47ee72d8a70c44c2a5f5211ffbb53071", func := "pub-tetrapla/laws.FnFjCheckNumber", spec := "fnFjCheckNumber", recurses := true, apart := false, narrowed := true }
def FnFjCheckNumberUptoSaid : Prop := fnFjCheckNumberUptoRow.holds Try.pinned (OpenSpec.upto fnFjCheckNumberSpec)

end Rows
end Go.Proofs.Ytdjilnhalpmabaa
