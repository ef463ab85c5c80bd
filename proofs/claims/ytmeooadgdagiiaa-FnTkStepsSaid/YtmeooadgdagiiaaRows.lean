/-
  No cell of these rows narrows 'for every input' (looked for: loops, veiled, ifaces, maps, wideKeys, modest, calm, conditions, laid).
  DERIVED. THE GIVEN ROWS OF THIS SEAT. 5 by the template 'for every input the law returns true; each argument reads behind the call as it read before'; 0 by the template 'total and deterministic' (their statements: YtmeooadgdagiiaaTotals.lean).
  GIVEN WITH THE SEED: the statements are not yours to turn. If you find one false, say at which input.
  Laid BY PROGRAM, IN A SANDBOX (cutbox-rows.mjs): the forced cells as the released guide's own fill.sh prints them over the translation ba2fddcc5a14e7df… (all of the seat's roots in one cut). By AI agents, Wed Nov 11 2026. No macro, syntax, notation, axiom, sorry.
-/
import Derived.Test.YtmeooadgdagiiaaChecked
import GoSem.Claim
import GoSem.ClaimJoined
import GoSem.ClaimMapViews
import Derived.JoinedTies
import Derived.KernelRfl
namespace Go.Proofs.Ytmeooadgdagiiaa
/- THE CELL 'sum', in the pinned program and in every row, IS THE sha256 OF THE DUMP (.gsa) THAT YtmeooadgdagiiaaProg.lean LOADS. Nothing in Lean hashes anything: it is a label: what it is worth is what the hold of that sum in a sandbox is worth. -/
noncomputable def Try.pinned : Pinned := { name := "ytmeooadgdagiiaa", sum := "ba2fddcc5a14e7df15c9ebefe2b8fb0e8410280a0d6057ab88e78dd4b0ff4ea9", checked := Try.checked }
namespace Rows
def none {H : Type} : Left H := { results := [], args := [] }

/-- 'laws.FnTkLate': WHATEVER THE INPUT: true; the input reads as it did. -/
def fnTkLateSpec : ChangeSpec := { name := "fnTkLate", fn := fun _ => fun
  | [d1, d2, d3, d4] => { results := [.lit (.bool true)], args := [d1, d2, d3, d4] }
  | _ => none }
def fnTkLateRow : OpenClaim := { program := "ytmeooadgdagiiaa", sum := "ba2fddcc5a14e7df15c9ebefe2b8fb0e8410280a0d6057ab88e78dd4b0ff4ea9", func := "pub-loxodrome/laws.FnTkLate", spec := "fnTkLate", inPlace := ["math.archTrunc", "math.Float64bits", "math.Float64frombits"], unfollowed := true, recurses := true, apart := false }
def FnTkLateSaid : Prop := fnTkLateRow.holds Try.pinned (OpenSpec.ofChange fnTkLateSpec)

/-- ITS FALSE NEIGHBOUR: 'it returns false'. Refute it at one input. -/
def fnTkLateWrong : ChangeSpec := { name := "fnTkLate", fn := fun _ => fun
  | [d1, d2, d3, d4] => { results := [.lit (.bool false)], args := [d1, d2, d3, d4] }
  | _ => none }
def FnTkLateWrongFalsely : Prop := fnTkLateRow.holds Try.pinned (OpenSpec.ofChange fnTkLateWrong)

/-- 'laws.FnTkRoot': WHATEVER THE INPUT: true; the input reads as it did. -/
def fnTkRootSpec : ChangeSpec := { name := "fnTkRoot", fn := fun _ => fun
  | [d1, d2, d3] => { results := [.lit (.bool true)], args := [d1, d2, d3] }
  | _ => none }
def fnTkRootRow : OpenClaim := { program := "ytmeooadgdagiiaa", sum := "ba2fddcc5a14e7df15c9ebefe2b8fb0e8410280a0d6057ab88e78dd4b0ff4ea9", func := "pub-loxodrome/laws.FnTkRoot", spec := "fnTkRoot", inPlace := ["math.archTrunc", "math.Float64bits", "math.Float64frombits"], unfollowed := true, recurses := true, apart := false }
def FnTkRootSaid : Prop := fnTkRootRow.holds Try.pinned (OpenSpec.ofChange fnTkRootSpec)

/-- ITS FALSE NEIGHBOUR: 'it returns false'. Refute it at one input. -/
def fnTkRootWrong : ChangeSpec := { name := "fnTkRoot", fn := fun _ => fun
  | [d1, d2, d3] => { results := [.lit (.bool false)], args := [d1, d2, d3] }
  | _ => none }
def FnTkRootWrongFalsely : Prop := fnTkRootRow.holds Try.pinned (OpenSpec.ofChange fnTkRootWrong)

/-- 'laws.FnTkRoad': WHATEVER THE INPUT: true; the input reads as it did. -/
def fnTkRoadSpec : ChangeSpec := { name := "fnTkRoad", fn := fun _ => fun
  | [d1, d2, d3, d4, d5] => { results := [.lit (.bool true)], args := [d1, d2, d3, d4, d5] }
  | _ => none }
def fnTkRoadRow : OpenClaim := { program := "ytmeooadgdagiiaa", sum := "ba2fddcc5a14e7df15c9ebefe2b8fb0e8410280a0d6057ab88e78dd4b0ff4ea9", func := "pub-loxodrome/laws.FnTkRoad", spec := "fnTkRoad", inPlace := ["math.archTrunc", "math.Float64bits", "math.Float64frombits"], unfollowed := true, recurses := true, apart := false }
def FnTkRoadSaid : Prop := fnTkRoadRow.holds Try.pinned (OpenSpec.ofChange fnTkRoadSpec)

/-- ITS FALSE NEIGHBOUR: 'it returns false'. Refute it at one input. -/
def fnTkRoadWrong : ChangeSpec := { name := "fnTkRoad", fn := fun _ => fun
  | [d1, d2, d3, d4, d5] => { results := [.lit (.bool false)], args := [d1, d2, d3, d4, d5] }
  | _ => none }
def FnTkRoadWrongFalsely : Prop := fnTkRoadRow.holds Try.pinned (OpenSpec.ofChange fnTkRoadWrong)

/-- 'laws.FnTkNearest': WHATEVER THE INPUT: true; the input reads as it did. -/
def fnTkNearestSpec : ChangeSpec := { name := "fnTkNearest", fn := fun _ => fun
  | [d1, d2, d3, d4] => { results := [.lit (.bool true)], args := [d1, d2, d3, d4] }
  | _ => none }
def fnTkNearestRow : OpenClaim := { program := "ytmeooadgdagiiaa", sum := "ba2fddcc5a14e7df15c9ebefe2b8fb0e8410280a0d6057ab88e78dd4b0ff4ea9", func := "pub-loxodrome/laws.FnTkNearest", spec := "fnTkNearest", inPlace := ["math.archTrunc", "math.Float64bits", "math.Float64frombits", "math.archMin"], unfollowed := true, recurses := true, apart := false }
def FnTkNearestSaid : Prop := fnTkNearestRow.holds Try.pinned (OpenSpec.ofChange fnTkNearestSpec)

/-- ITS FALSE NEIGHBOUR: 'it returns false'. Refute it at one input. -/
def fnTkNearestWrong : ChangeSpec := { name := "fnTkNearest", fn := fun _ => fun
  | [d1, d2, d3, d4] => { results := [.lit (.bool false)], args := [d1, d2, d3, d4] }
  | _ => none }
def FnTkNearestWrongFalsely : Prop := fnTkNearestRow.holds Try.pinned (OpenSpec.ofChange fnTkNearestWrong)

/-- 'laws.FnTkSteps': WHATEVER THE INPUT: true; the input reads as it did. -/
def fnTkStepsSpec : ChangeSpec := { name := "fnTkSteps", fn := fun _ => fun
  | [d1, d2, d3, d4] => { results := [.lit (.bool true)], args := [d1, d2, d3, d4] }
  | _ => none }
def fnTkStepsRow : OpenClaim := { program := "ytmeooadgdagiiaa", sum := "ba2fddcc5a14e7df15c9ebefe2b8fb0e8410280a0d6057ab88e78dd4b0ff4ea9", func := "pub-loxodrome/laws.FnTkSteps", spec := "fnTkSteps", inPlace := ["math.archTrunc", "math.Float64bits", "math.Float64frombits"], unfollowed := true, recurses := true, apart := false }
def FnTkStepsSaid : Prop := fnTkStepsRow.holds Try.pinned (OpenSpec.ofChange fnTkStepsSpec)

/-- ITS FALSE NEIGHBOUR: 'it returns false'. Refute it at one input. -/
def fnTkStepsWrong : ChangeSpec := { name := "fnTkSteps", fn := fun _ => fun
  | [d1, d2, d3, d4] => { results := [.lit (.bool false)], args := [d1, d2, d3, d4] }
  | _ => none }
def FnTkStepsWrongFalsely : Prop := fnTkStepsRow.holds Try.pinned (OpenSpec.ofChange fnTkStepsWrong)

/- THE SECOND FORM. 'bulk': how many values and letters a reading holds, each counted each time it is reached (what is shared counts as often as it is met; a slice's spare places count too). A statement '..UptoSaid' is the law's where the arguments, and the package variables that the reading takes, are together of bulk at most 1048576: NARROWER than '..Said'. Prove '..Said' where nothing that the law and all that it calls make is longer than what came in: it says more and counts as full. Else prove '..UptoSaid'. A law counts once. -/
mutual
def uptoBulk {H : Type} : DataW H → Nat
  | .lit (.string bytes) => bytes.length + 1
  | .lit _ => 1
  | .nil => 1
  | .ptr d => uptoBulk d + 1
  | .slice elems spare => uptoBulkAll elems + uptoBulkAll spare + 1
  | .agg parts => uptoBulkAll parts + 1
  | .iface _ d => uptoBulk d + 1
  | .map entries => uptoBulkEntries entries + 1
  | .held _ => 1
def uptoBulkAll {H : Type} : List (DataW H) → Nat
  | [] => 0
  | d :: r => uptoBulk d + uptoBulkAll r
def uptoBulkEntries {H : Type} : List (Lit × DataW H) → Nat
  | [] => 0
  | x :: r => uptoBulkEntry x + uptoBulkEntries r
def uptoBulkEntry {H : Type} : Lit × DataW H → Nat
  | (.string bytes, d) => bytes.length + uptoBulk d + 1
  | (_, d) => uptoBulk d + 1
 end
def uptoSmall : (H : Type) → List (DataW H) → Bool := fun _ ds => decide (uptoBulkAll ds ≤ 1048576)
def OpenSpec.upto (s : _root_.Go.ChangeSpec) : _root_.Go.OpenSpec := { _root_.Go.OpenSpec.ofChange s with cond := some uptoSmall }

/-- 'laws.FnTkLate', WHERE WHAT IT READS IS OF BULK AT MOST 1048576: true; the input reads as it did. -/
def fnTkLateUptoRow : OpenClaim := { program := "ytmeooadgdagiiaa", sum := "ba2fddcc5a14e7df15c9ebefe2b8fb0e8410280a0d6057ab88e78dd4b0ff4ea9", func := "pub-loxodrome/laws.FnTkLate", spec := "fnTkLate", inPlace := ["math.archTrunc", "math.Float64bits", "math.Float64frombits"], unfollowed := true, recurses := true, apart := false, narrowed := true }
def FnTkLateUptoSaid : Prop := fnTkLateUptoRow.holds Try.pinned (OpenSpec.upto fnTkLateSpec)

/-- 'laws.FnTkRoot', WHERE WHAT IT READS IS OF BULK AT MOST 1048576: true; the input reads as it did. -/
def fnTkRootUptoRow : OpenClaim := { program := "ytmeooadgdagiiaa", sum := "ba2fddcc5a14e7df15c9ebefe2b8fb0e8410280a0d6057ab88e78dd4b0ff4ea9", func := "pub-loxodrome/laws.FnTkRoot", spec := "fnTkRoot", inPlace := ["math.archTrunc", "math.Float64bits", "math.Float64frombits"], unfollowed := true, recurses := true, apart := false, narrowed := true }
def FnTkRootUptoSaid : Prop := fnTkRootUptoRow.holds Try.pinned (OpenSpec.upto fnTkRootSpec)

/-- 'laws.FnTkRoad', WHERE WHAT IT READS IS OF BULK AT MOST 1048576: true; the input reads as it did. -/
def fnTkRoadUptoRow : OpenClaim := { program := "ytmeooadgdagiiaa", sum := "ba2fddcc5a14e7df15c9ebefe2b8fb0e8410280a0d6057ab88e78dd4b0ff4ea9", func := "pub-loxodrome/laws.FnTkRoad", spec := "fnTkRoad", inPlace := ["math.archTrunc", "math.Float64bits", "math.Float64frombits"], unfollowed := true, recurses := true, apart := false, narrowed := true }
def FnTkRoadUptoSaid : Prop := fnTkRoadUptoRow.holds Try.pinned (OpenSpec.upto fnTkRoadSpec)

/-- 'laws.FnTkNearest', WHERE WHAT IT READS IS OF BULK AT MOST 1048576: true; the input reads as it did. -/
def fnTkNearestUptoRow : OpenClaim := { program := "ytmeooadgdagiiaa", sum := "ba2fddcc5a14e7df15c9ebefe2b8fb0e8410280a0d6057ab88e78dd4b0ff4ea9", func := "pub-loxodrome/laws.FnTkNearest", spec := "fnTkNearest", inPlace := ["math.archTrunc", "math.Float64bits", "math.Float64frombits", "math.archMin"], unfollowed := true, recurses := true, apart := false, narrowed := true }
def FnTkNearestUptoSaid : Prop := fnTkNearestUptoRow.holds Try.pinned (OpenSpec.upto fnTkNearestSpec)

/-- 'laws.FnTkSteps', WHERE WHAT IT READS IS OF BULK AT MOST 1048576: true; the input reads as it did. -/
def fnTkStepsUptoRow : OpenClaim := { program := "ytmeooadgdagiiaa", sum := "ba2fddcc5a14e7df15c9ebefe2b8fb0e8410280a0d6057ab88e78dd4b0ff4ea9", func := "pub-loxodrome/laws.FnTkSteps", spec := "fnTkSteps", inPlace := ["math.archTrunc", "math.Float64bits", "math.Float64frombits"], unfollowed := true, recurses := true, apart := false, narrowed := true }
def FnTkStepsUptoSaid : Prop := fnTkStepsUptoRow.holds Try.pinned (OpenSpec.upto fnTkStepsSpec)

end Rows
end Go.Proofs.Ytmeooadgdagiiaa
