/-
  NARROWER THAN 'FOR EVERY INPUT', by the rows' own cells (each row's printed sentence says how): FnTvBuilt: laid · FnTvNearest: laid · FnTvWithin: laid.
  DERIVED. THE GIVEN ROWS OF THIS SEAT. 3 by the template 'for every input the law returns true; each argument reads behind the call as it read before'; 0 by the template 'total and deterministic' (their statements: YtpamoleocjdjiaaDoorTotals.lean).
  GIVEN WITH THE SEED: the statements are not yours to turn. If you find one false, say at which input.
  Laid BY PROGRAM, IN A SANDBOX (cutbox-rows.mjs): the forced cells as the released guide's own fill.sh prints them over the translation ac2c5032066281dc… (all of the seat's roots in one cut). By AI agents, Wed Nov 11 2026. No macro, syntax, notation, axiom, sorry.
-/
import Derived.Test.YtpamoleocjdjiaaDoorChecked
import GoSem.Claim
import GoSem.ClaimJoined
import GoSem.ClaimMapViews
import Derived.JoinedTies
import Derived.KernelRfl
namespace Go.Proofs.YtpamoleocjdjiaaDoor
/- THE CELL 'sum', in the pinned program and in every row, IS THE sha256 OF THE DUMP (.gsa) THAT YtpamoleocjdjiaaDoorProg.lean LOADS. Nothing in Lean hashes anything: it is a label: what it is worth is what the hold of that sum in a sandbox is worth. -/
noncomputable def Tryd.pinned : Pinned := { name := "ytpamoleocjdjiaadoor", sum := "ac2c5032066281dc358d971e1057fc41783e7a9081ceca34a571b2be2db7a965", checked := Tryd.checked }
namespace Rows
def none {H : Type} : Left H := { results := [], args := [] }

/- WHAT THE LISTED PACKAGE-LEVEL VARIABLES READ AS WHEN THE CALL BEGINS. Each datum BY PROGRAM (the guide's laid-datum.mjs) off the statement by which the dump's own 'gosem.cut.vars' lays the variable. In a bare row this is a premise. The card (YtpamoleocjdjiaaDoorCards.lean) ties it to the program's text. -/
def laid_pub_loxodrome_pub_gonum_spatial_vptree_pointAtInfinity {H : Type} : DataW H := .iface "*errors.errorString" (.ptr (.agg [.lit (.string [118, 112, 116, 114, 101, 101, 58, 32, 112, 111, 105, 110, 116, 32, 97, 116, 32, 105, 110, 102, 105, 110, 105, 116, 121])]))

/-- 'laws.FnTvBuilt': WHATEVER THE INPUT: true; the input reads as it did. -/
def fnTvBuiltSpec : ChangeSpec := { name := "fnTvBuilt", fn := fun _ => fun
  | [d1, d2, d3] => { results := [.lit (.bool true)], args := [d1, d2, d3] }
  | _ => none }
def fnTvBuiltRow : OpenClaim := { program := "ytpamoleocjdjiaadoor", sum := "ac2c5032066281dc358d971e1057fc41783e7a9081ceca34a571b2be2db7a965", func := "pub-loxodrome/laws.FnTvBuilt", spec := "fnTvBuilt", inPlace := ["math.archTrunc", "math.Float64bits", "math.Float64frombits", "math.sqrt"], unfollowed := true, recurses := true, named := ["pub-loxodrome/pub/gonum/spatial/vptree.pointAtInfinity"], apart := false, laid := [("pub-loxodrome/pub/gonum/spatial/vptree.pointAtInfinity", laid_pub_loxodrome_pub_gonum_spatial_vptree_pointAtInfinity)] }
def FnTvBuiltSaid : Prop := fnTvBuiltRow.holds Tryd.pinned (OpenSpec.ofChange fnTvBuiltSpec)

/-- ITS FALSE NEIGHBOUR: 'it returns false'. Refute it at one input. -/
def fnTvBuiltWrong : ChangeSpec := { name := "fnTvBuilt", fn := fun _ => fun
  | [d1, d2, d3] => { results := [.lit (.bool false)], args := [d1, d2, d3] }
  | _ => none }
def FnTvBuiltWrongFalsely : Prop := fnTvBuiltRow.holds Tryd.pinned (OpenSpec.ofChange fnTvBuiltWrong)

/-- 'laws.FnTvNearest': WHATEVER THE INPUT: true; the input reads as it did. -/
def fnTvNearestSpec : ChangeSpec := { name := "fnTvNearest", fn := fun _ => fun
  | [d1, d2, d3, d4] => { results := [.lit (.bool true)], args := [d1, d2, d3, d4] }
  | _ => none }
def fnTvNearestRow : OpenClaim := { program := "ytpamoleocjdjiaadoor", sum := "ac2c5032066281dc358d971e1057fc41783e7a9081ceca34a571b2be2db7a965", func := "pub-loxodrome/laws.FnTvNearest", spec := "fnTvNearest", inPlace := ["math.archTrunc", "math.Float64bits", "math.Float64frombits", "math.archMin", "math.sqrt"], unfollowed := true, recurses := true, named := ["pub-loxodrome/pub/gonum/spatial/vptree.pointAtInfinity"], apart := false, laid := [("pub-loxodrome/pub/gonum/spatial/vptree.pointAtInfinity", laid_pub_loxodrome_pub_gonum_spatial_vptree_pointAtInfinity)] }
def FnTvNearestSaid : Prop := fnTvNearestRow.holds Tryd.pinned (OpenSpec.ofChange fnTvNearestSpec)

/-- ITS FALSE NEIGHBOUR: 'it returns false'. Refute it at one input. -/
def fnTvNearestWrong : ChangeSpec := { name := "fnTvNearest", fn := fun _ => fun
  | [d1, d2, d3, d4] => { results := [.lit (.bool false)], args := [d1, d2, d3, d4] }
  | _ => none }
def FnTvNearestWrongFalsely : Prop := fnTvNearestRow.holds Tryd.pinned (OpenSpec.ofChange fnTvNearestWrong)

/-- 'laws.FnTvWithin': WHATEVER THE INPUT: true; the input reads as it did. -/
def fnTvWithinSpec : ChangeSpec := { name := "fnTvWithin", fn := fun _ => fun
  | [d1, d2, d3, d4, d5] => { results := [.lit (.bool true)], args := [d1, d2, d3, d4, d5] }
  | _ => none }
def fnTvWithinRow : OpenClaim := { program := "ytpamoleocjdjiaadoor", sum := "ac2c5032066281dc358d971e1057fc41783e7a9081ceca34a571b2be2db7a965", func := "pub-loxodrome/laws.FnTvWithin", spec := "fnTvWithin", inPlace := ["math.archTrunc", "math.Float64bits", "math.Float64frombits", "math.sqrt"], unfollowed := true, recurses := true, named := ["pub-loxodrome/pub/gonum/spatial/vptree.pointAtInfinity"], apart := false, laid := [("pub-loxodrome/pub/gonum/spatial/vptree.pointAtInfinity", laid_pub_loxodrome_pub_gonum_spatial_vptree_pointAtInfinity)] }
def FnTvWithinSaid : Prop := fnTvWithinRow.holds Tryd.pinned (OpenSpec.ofChange fnTvWithinSpec)

/-- ITS FALSE NEIGHBOUR: 'it returns false'. Refute it at one input. -/
def fnTvWithinWrong : ChangeSpec := { name := "fnTvWithin", fn := fun _ => fun
  | [d1, d2, d3, d4, d5] => { results := [.lit (.bool false)], args := [d1, d2, d3, d4, d5] }
  | _ => none }
def FnTvWithinWrongFalsely : Prop := fnTvWithinRow.holds Tryd.pinned (OpenSpec.ofChange fnTvWithinWrong)

/- THE SECOND FORM. 'bulk': how many values and letters a reading holds, each counted each time it is reached (what is shared counts as often as it is met; a slice's spare places count too). A statement '..UptoSaid' is the law's where the arguments, and the package variables that the reading takes, are together of bulk at most 1048576: NARROWER than '..Said'. Prove '..Said' where nothing that the law and all that it calls make is longer than what came in: it says more and counts as full. Else prove '..UptoSaid'. A law counts once. -/
mutual
def uptoBulk {H : Type} : DataW H → Nat
  | .lit (.string bytes) => bytes.length + 1
  | .lit _ => 1
  | .nil => 1
  | .ptr d => uptoBulk d + 1
  | .slice elems spare => uptoBulkAll elems + uptoBulkAll spare + 1
  | .agg parts => uptoBulkAll parts + 1
  | .iface _ d => uptoBulk d + 1
  | .map entries => uptoBulkEntries entries + 1
  | .held _ => 1
def uptoBulkAll {H : Type} : List (DataW H) → Nat
  | [] => 0
  | d :: r => uptoBulk d + uptoBulkAll r
def uptoBulkEntries {H : Type} : List (Lit × DataW H) → Nat
  | [] => 0
  | x :: r => uptoBulkEntry x + uptoBulkEntries r
def uptoBulkEntry {H : Type} : Lit × DataW H → Nat
  | (.string bytes, d) => bytes.length + uptoBulk d + 1
  | (_, d) => uptoBulk d + 1
 end
def uptoSmall : (H : Type) → List (DataW H) → Bool := fun _ ds => decide (uptoBulkAll ds ≤ 1048576)
def OpenSpec.upto (s : _root_.Go.ChangeSpec) : _root_.Go.OpenSpec := { _root_.Go.OpenSpec.ofChange s with cond := some uptoSmall }

/-- 'laws.FnTvBuilt', WHERE WHAT IT READS IS OF BULK AT MOST 1048576: true; the input reads as it did. -/
def fnTvBuiltUptoRow : OpenClaim := { program := "ytpamoleocjdjiaadoor", sum := "ac2c5032066281dc358d971e1057fc41783e7a9081ceca34a571b2be2db7a965", func := "pub-loxodrome/laws.FnTvBuilt", spec := "fnTvBuilt", inPlace := ["math.archTrunc", "math.Float64bits", "math.Float64frombits", "math.sqrt"], unfollowed := true, recurses := true, named := ["pub-loxodrome/pub/gonum/spatial/vptree.pointAtInfinity"], apart := false, laid := [("pub-loxodrome/pub/gonum/spatial/vptree.pointAtInfinity", laid_pub_loxodrome_pub_gonum_spatial_vptree_pointAtInfinity)], narrowed := true }
def FnTvBuiltUptoSaid : Prop := fnTvBuiltUptoRow.holds Tryd.pinned (OpenSpec.upto fnTvBuiltSpec)

/-- 'laws.FnTvNearest', WHERE WHAT IT READS IS OF BULK AT MOST 1048576: true; the input reads as it did. -/
def fnTvNearestUptoRow : OpenClaim := { program := "ytpamoleocjdjiaadoor", sum := "ac2c5032066281dc358d971e1057fc41783e7a9081ceca34a571b2be2db7a965", func := "pub-loxodrome/laws.FnTvNearest", spec := "fnTvNearest", inPlace := ["math.archTrunc", "math.Float64bits", "math.Float64frombits", "math.archMin", "math.sqrt"], unfollowed := true, recurses := true, named := ["pub-loxodrome/pub/gonum/spatial/vptree.pointAtInfinity"], apart := false, laid := [("pub-loxodrome/pub/gonum/spatial/vptree.pointAtInfinity", laid_pub_loxodrome_pub_gonum_spatial_vptree_pointAtInfinity)], narrowed := true }
def FnTvNearestUptoSaid : Prop := fnTvNearestUptoRow.holds Tryd.pinned (OpenSpec.upto fnTvNearestSpec)

/-- 'laws.FnTvWithin', WHERE WHAT IT READS IS OF BULK AT MOST 1048576: true; the input reads as it did. -/
def fnTvWithinUptoRow : OpenClaim := { program := "ytpamoleocjdjiaadoor", sum := "ac2c5032066281dc358d971e1057fc41783e7a9081ceca34a571b2be2db7a965", func := "pub-loxodrome/laws.FnTvWithin", spec := "fnTvWithin", inPlace := ["math.archTrunc", "math.Float64bits", "math.Float64frombits", "math.sqrt"], unfollowed := true, recurses := true, named := ["pub-loxodrome/pub/gonum/spatial/vptree.pointAtInfinity"], apart := false, laid := [("pub-loxodrome/pub/gonum/spatial/vptree.pointAtInfinity", laid_pub_loxodrome_pub_gonum_spatial_vptree_pointAtInfinity)], narrowed := true }
def FnTvWithinUptoSaid : Prop := fnTvWithinUptoRow.holds Tryd.pinned (OpenSpec.upto fnTvWithinSpec)

end Rows
end Go.Proofs.YtpamoleocjdjiaaDoor
