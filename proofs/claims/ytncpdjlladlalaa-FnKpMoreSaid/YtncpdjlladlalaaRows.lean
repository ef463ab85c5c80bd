/-
  No cell of these rows narrows 'for every input' (looked for: loops, veiled, ifaces, maps, wideKeys, modest, calm, conditions, laid).
  DERIVED. THE GIVEN ROWS OF THIS SEAT. 5 by the template 'for every input the law returns true; each argument reads behind the call as it read before'; 0 by the template 'total and deterministic' (their statements: YtncpdjlladlalaaTotals.lean).
  GIVEN WITH THE SEED: the statements are not yours to turn. If you find one false, say at which input.
  Laid BY PROGRAM, IN A SANDBOX (cutbox-rows.mjs): the forced cells as the released guide's own fill.sh prints them over the translation 73c75ac324d1c646… (all of the seat's roots in one cut). By AI agents, Wed Nov 11 2026. No macro, syntax, notation, axiom, sorry.
-/
import Derived.Test.YtncpdjlladlalaaChecked
import GoSem.Claim
import GoSem.ClaimJoined
import GoSem.ClaimMapViews
import Derived.JoinedTies
import Derived.KernelRfl
namespace Go.Proofs.Ytncpdjlladlalaa
/- THE CELL 'sum', in the pinned program and in every row, IS THE sha256 OF THE DUMP (.gsa) THAT YtncpdjlladlalaaProg.lean LOADS. Nothing in Lean hashes anything: it is a label: what it is worth is what the hold of that sum in a sandbox is worth. -/
noncomputable def Try.pinned : Pinned := { name := "ytncpdjlladlalaa", sum := "73c75ac324d1c646a2fe4a071d3d72693153db3046a51af130388e579d363d80", checked := Try.checked }
namespace Rows
def none {H : Type} : Left H := { results := [], args := [] }

/-- 'laws.FnTvWalk': WHATEVER THE INPUT: true; the input reads as it did. -/
def fnTvWalkSpec : ChangeSpec := { name := "fnTvWalk", fn := fun _ => fun
  | [d1, d2] => { results := [.lit (.bool true)], args := [d1, d2] }
  | _ => none }
def fnTvWalkRow : OpenClaim := { program := "ytncpdjlladlalaa", sum := "73c75ac324d1c646a2fe4a071d3d72693153db3046a51af130388e579d363d80", func := "pub-loxodrome/laws.FnTvWalk", spec := "fnTvWalk", inPlace := ["math.archTrunc", "math.Float64bits", "math.Float64frombits"], unfollowed := true, recurses := true, apart := false }
def FnTvWalkSaid : Prop := fnTvWalkRow.holds Try.pinned (OpenSpec.ofChange fnTvWalkSpec)

/-- ITS FALSE NEIGHBOUR: 'it returns false'. Refute it at one input. -/
def fnTvWalkWrong : ChangeSpec := { name := "fnTvWalk", fn := fun _ => fun
  | [d1, d2] => { results := [.lit (.bool false)], args := [d1, d2] }
  | _ => none }
def FnTvWalkWrongFalsely : Prop := fnTvWalkRow.holds Try.pinned (OpenSpec.ofChange fnTvWalkWrong)

/-- 'laws.FnTkWalk': WHATEVER THE INPUT: true; the input reads as it did. -/
def fnTkWalkSpec : ChangeSpec := { name := "fnTkWalk", fn := fun _ => fun
  | [d1, d2] => { results := [.lit (.bool true)], args := [d1, d2] }
  | _ => none }
def fnTkWalkRow : OpenClaim := { program := "ytncpdjlladlalaa", sum := "73c75ac324d1c646a2fe4a071d3d72693153db3046a51af130388e579d363d80", func := "pub-loxodrome/laws.FnTkWalk", spec := "fnTkWalk", inPlace := ["math.archTrunc", "math.Float64bits", "math.Float64frombits"], unfollowed := true, recurses := true, apart := false }
def FnTkWalkSaid : Prop := fnTkWalkRow.holds Try.pinned (OpenSpec.ofChange fnTkWalkSpec)

/-- ITS FALSE NEIGHBOUR: 'it returns false'. Refute it at one input. -/
def fnTkWalkWrong : ChangeSpec := { name := "fnTkWalk", fn := fun _ => fun
  | [d1, d2] => { results := [.lit (.bool false)], args := [d1, d2] }
  | _ => none }
def FnTkWalkWrongFalsely : Prop := fnTkWalkRow.holds Try.pinned (OpenSpec.ofChange fnTkWalkWrong)

/-- 'laws.FnKpVKept': WHATEVER THE INPUT: true; the input reads as it did. -/
def fnKpVKeptSpec : ChangeSpec := { name := "fnKpVKept", fn := fun _ => fun
  | [d1, d2] => { results := [.lit (.bool true)], args := [d1, d2] }
  | _ => none }
def fnKpVKeptRow : OpenClaim := { program := "ytncpdjlladlalaa", sum := "73c75ac324d1c646a2fe4a071d3d72693153db3046a51af130388e579d363d80", func := "pub-loxodrome/laws.FnKpVKept", spec := "fnKpVKept", inPlace := ["math.Float64frombits"], unfollowed := true, recurses := true, apart := false }
def FnKpVKeptSaid : Prop := fnKpVKeptRow.holds Try.pinned (OpenSpec.ofChange fnKpVKeptSpec)

/-- ITS FALSE NEIGHBOUR: 'it returns false'. Refute it at one input. -/
def fnKpVKeptWrong : ChangeSpec := { name := "fnKpVKept", fn := fun _ => fun
  | [d1, d2] => { results := [.lit (.bool false)], args := [d1, d2] }
  | _ => none }
def FnKpVKeptWrongFalsely : Prop := fnKpVKeptRow.holds Try.pinned (OpenSpec.ofChange fnKpVKeptWrong)

/-- 'laws.FnKpKept': WHATEVER THE INPUT: true; the input reads as it did. -/
def fnKpKeptSpec : ChangeSpec := { name := "fnKpKept", fn := fun _ => fun
  | [d1, d2] => { results := [.lit (.bool true)], args := [d1, d2] }
  | _ => none }
def fnKpKeptRow : OpenClaim := { program := "ytncpdjlladlalaa", sum := "73c75ac324d1c646a2fe4a071d3d72693153db3046a51af130388e579d363d80", func := "pub-loxodrome/laws.FnKpKept", spec := "fnKpKept", inPlace := ["math.Float64frombits"], unfollowed := true, recurses := true, apart := false }
def FnKpKeptSaid : Prop := fnKpKeptRow.holds Try.pinned (OpenSpec.ofChange fnKpKeptSpec)

/-- ITS FALSE NEIGHBOUR: 'it returns false'. Refute it at one input. -/
def fnKpKeptWrong : ChangeSpec := { name := "fnKpKept", fn := fun _ => fun
  | [d1, d2] => { results := [.lit (.bool false)], args := [d1, d2] }
  | _ => none }
def FnKpKeptWrongFalsely : Prop := fnKpKeptRow.holds Try.pinned (OpenSpec.ofChange fnKpKeptWrong)

/-- 'laws.FnKpMore': WHATEVER THE INPUT: true; the input reads as it did. -/
def fnKpMoreSpec : ChangeSpec := { name := "fnKpMore", fn := fun _ => fun
  | [d1, d2] => { results := [.lit (.bool true)], args := [d1, d2] }
  | _ => none }
def fnKpMoreRow : OpenClaim := { program := "ytncpdjlladlalaa", sum := "73c75ac324d1c646a2fe4a071d3d72693153db3046a51af130388e579d363d80", func := "pub-loxodrome/laws.FnKpMore", spec := "fnKpMore", inPlace := ["math.Float64frombits"], unfollowed := true, recurses := true, apart := false }
def FnKpMoreSaid : Prop := fnKpMoreRow.holds Try.pinned (OpenSpec.ofChange fnKpMoreSpec)

/-- ITS FALSE NEIGHBOUR: 'it returns false'. Refute it at one input. -/
def fnKpMoreWrong : ChangeSpec := { name := "fnKpMore", fn := fun _ => fun
  | [d1, d2] => { results := [.lit (.bool false)], args := [d1, d2] }
  | _ => none }
def FnKpMoreWrongFalsely : Prop := fnKpMoreRow.holds Try.pinned (OpenSpec.ofChange fnKpMoreWrong)

/- THE SECOND FORM. 'bulk': how many values and letters a reading holds, each counted each time it is reached (what is shared counts as often as it is met; a slice's spare places count too). A statement '..UptoSaid' is the law's where the arguments, and the package variables that the reading takes, are together of bulk at most 1048576: NARROWER than '..Said'. Prove '..Said' where nothing that the law and all that it calls make is longer than what came in: it says more and counts as full. Else prove '..UptoSaid'. A law counts once. -/
mutual
def uptoBulk {H : Type} : DataW H → Nat
  | .lit (.string bytes) => bytes.length + 1
  | .lit _ => 1
  | .nil => 1
  | .ptr d => uptoBulk d + 1
  | .slice elems spare => uptoBulkAll elems + uptoBulkAll spare + 1
  | .agg parts => uptoBulkAll parts + 1
  | .iface _ d => uptoBulk d + 1
  | .map entries => uptoBulkEntries entries + 1
  | .held _ => 1
def uptoBulkAll {H : Type} : List (DataW H) → Nat
  | [] => 0
  | d :: r => uptoBulk d + uptoBulkAll r
def uptoBulkEntries {H : Type} : List (Lit × DataW H) → Nat
  | [] => 0
  | x :: r => uptoBulkEntry x + uptoBulkEntries r
def uptoBulkEntry {H : Type} : Lit × DataW H → Nat
  | (.string bytes, d) => bytes.length + uptoBulk d + 1
  | (_, d) => uptoBulk d + 1
 end
def uptoSmall : (H : Type) → List (DataW H) → Bool := fun _ ds => decide (uptoBulkAll ds ≤ 1048576)
def OpenSpec.upto (s : _root_.Go.ChangeSpec) : _root_.Go.OpenSpec := { _root_.Go.OpenSpec.ofChange s with cond := some uptoSmall }

/-- 'laws.FnTvWalk', WHERE WHAT IT READS IS OF BULK AT MOST 1048576: true; the input reads as it did. -/
def fnTvWalkUptoRow : OpenClaim := { program := "ytncpdjlladlalaa", sum := "73c75ac324d1c646a2fe4a071d3d72693153db3046a51af130388e579d363d80", func := "pub-loxodrome/laws.FnTvWalk", spec := "fnTvWalk", inPlace := ["math.archTrunc", "math.Float64bits", "math.Float64frombits"], unfollowed := true, recurses := true, apart := false, narrowed := true }
def FnTvWalkUptoSaid : Prop := fnTvWalkUptoRow.holds Try.pinned (OpenSpec.upto fnTvWalkSpec)

/-- 'laws.FnTkWalk', WHERE WHAT IT READS IS OF BULK AT MOST 1048576: true; the input reads as it did. -/
def fnTkWalkUptoRow : OpenClaim := { program := "ytncpdjlladlalaa", sum := "73c75ac324d1c646a2fe4a071d3d72693153db3046a51af130388e579d363d80", func := "pub-loxodrome/laws.FnTkWalk", spec := "fnTkWalk", inPlace := ["math.archTrunc", "math.Float64bits", "math.Float64frombits"], unfollowed := true, recurses := true, apart := false, narrowed := true }
def FnTkWalkUptoSaid : Prop := fnTkWalkUptoRow.holds Try.pinned (OpenSpec.upto fnTkWalkSpec)

/-- 'laws.FnKpVKept', WHERE WHAT IT READS IS OF BULK AT MOST 1048576: true; the input reads as it did. -/
def fnKpVKeptUptoRow : OpenClaim := { program := "ytncpdjlladlalaa", sum := "73c75ac324d1c646a2fe4a071d3d72693153db3046a51af130388e579d363d80", func := "pub-loxodrome/laws.FnKpVKept", spec := "fnKpVKept", inPlace := ["math.Float64frombits"], unfollowed := true, recurses := true, apart := false, narrowed := true }
def FnKpVKeptUptoSaid : Prop := fnKpVKeptUptoRow.holds Try.pinned (OpenSpec.upto fnKpVKeptSpec)

/-- 'laws.FnKpKept', WHERE WHAT IT READS IS OF BULK AT MOST 1048576: true; the input reads as it did. -/
def fnKpKeptUptoRow : OpenClaim := { program := "ytncpdjlladlalaa", sum := "73c75ac324d1c646a2fe4a071d3d72693153db3046a51af130388e579d363d80", func := "pub-loxodrome/laws.FnKpKept", spec := "fnKpKept", inPlace := ["math.Float64frombits"], unfollowed := true, recurses := true, apart := false, narrowed := true }
def FnKpKeptUptoSaid : Prop := fnKpKeptUptoRow.holds Try.pinned (OpenSpec.upto fnKpKeptSpec)

/-- 'laws.FnKpMore', WHERE WHAT IT READS IS OF BULK AT MOST 1048576: true; the input reads as it did. -/
def fnKpMoreUptoRow : OpenClaim := { program := "ytncpdjlladlalaa", sum := "73c75ac324d1c646a2fe4a071d3d72693153db3046a51af130388e579d363d80", func := "pub-loxodrome/laws.FnKpMore", spec := "fnKpMore", inPlace := ["math.Float64frombits"], unfollowed := true, recurses := true, apart := false, narrowed := true }
def FnKpMoreUptoSaid : Prop := fnKpMoreUptoRow.holds Try.pinned (OpenSpec.upto fnKpMoreSpec)

end Rows
end Go.Proofs.Ytncpdjlladlalaa
