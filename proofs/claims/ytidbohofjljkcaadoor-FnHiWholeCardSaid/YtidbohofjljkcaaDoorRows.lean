/-
  NARROWER THAN 'FOR EVERY INPUT', by the rows' own cells (each row's printed sentence says how): FnHiCubes: laid · FnHiMirror: laid · FnHiSteps: laid · FnHiWhole: laid.
  DERIVED. THE GIVEN ROWS OF THIS SEAT. 4 by the template 'for every input the law returns true; each argument reads behind the call as it read before'; 0 by the template 'total and deterministic' (their statements: YtidbohofjljkcaaDoorTotals.lean).
  GIVEN WITH THE SEED: the statements are not yours to turn. If you find one false, say at which input.
  Laid BY PROGRAM, IN A SANDBOX (cutbox-rows.mjs): the forced cells as the released guide's own fill.sh prints them over the translation 05c2d6ec8d0d5bff… (all of the seat's roots in one cut). By AI agents, Wed Nov 11 2026. No macro, syntax, notation, axiom, sorry.
-/
import Derived.Test.YtidbohofjljkcaaDoorChecked
import GoSem.Claim
import GoSem.ClaimJoined
import GoSem.ClaimMapViews
import Derived.JoinedTies
import Derived.KernelRfl
namespace Go.Proofs.YtidbohofjljkcaaDoor
/- THE CELL 'sum', in the pinned program and in every row, IS THE sha256 OF THE DUMP (.gsa) THAT YtidbohofjljkcaaDoorProg.lean LOADS. Nothing in Lean hashes anything: it is a label: what it is worth is what the hold of that sum in a sandbox is worth. -/
noncomputable def Tryd.pinned : Pinned := { name := "ytidbohofjljkcaadoor", sum := "05c2d6ec8d0d5bffeca6bb18aaaa23c2f6cdb7928e36d564405d9d91b6d9b345", checked := Tryd.checked }
namespace Rows
def none {H : Type} : Left H := { results := [], args := [] }

/- WHAT THE LISTED PACKAGE-LEVEL VARIABLES READ AS WHEN THE CALL BEGINS. Each datum BY PROGRAM (the guide's laid-datum.mjs) off the statement by which the dump's own 'gosem.cut.vars' lays the variable. In a bare row this is a premise. The card (YtidbohofjljkcaaDoorCards.lean) ties it to the program's text. -/
def laid_pub_loxodrome_pub_gonum_spatial_curve_ErrUnderflow {H : Type} : DataW H := .iface "*errors.errorString" (.ptr (.agg [.lit (.string [111, 114, 100, 101, 114, 32, 105, 115, 32, 108, 101, 115, 115, 32, 116, 104, 97, 110, 32, 49])]))
def laid_pub_loxodrome_pub_gonum_spatial_curve_ErrOverflow {H : Type} : DataW H := .iface "*errors.errorString" (.ptr (.agg [.lit (.string [111, 118, 101, 114, 102, 108, 111, 119, 32, 105, 110, 116])]))

/-- 'laws.FnHiCubes': WHATEVER THE INPUT: true; the input reads as it did. -/
def fnHiCubesSpec : ChangeSpec := { name := "fnHiCubes", fn := fun _ => fun
  | [d1, d2, d3, d4, d5] => { results := [.lit (.bool true)], args := [d1, d2, d3, d4, d5] }
  | _ => none }
def fnHiCubesRow : OpenClaim := { program := "ytidbohofjljkcaadoor", sum := "05c2d6ec8d0d5bffeca6bb18aaaa23c2f6cdb7928e36d564405d9d91b6d9b345", func := "pub-loxodrome/laws.FnHiCubes", spec := "fnHiCubes", unfollowed := true, recurses := true, named := ["pub-loxodrome/pub/gonum/spatial/curve.ErrUnderflow", "pub-loxodrome/pub/gonum/spatial/curve.ErrOverflow"], apart := false, laid := [("pub-loxodrome/pub/gonum/spatial/curve.ErrUnderflow", laid_pub_loxodrome_pub_gonum_spatial_curve_ErrUnderflow), ("pub-loxodrome/pub/gonum/spatial/curve.ErrOverflow", laid_pub_loxodrome_pub_gonum_spatial_curve_ErrOverflow)] }
def FnHiCubesSaid : Prop := fnHiCubesRow.holds Tryd.pinned (OpenSpec.ofChange fnHiCubesSpec)

/-- ITS FALSE NEIGHBOUR: 'it returns false'. Refute it at one input. -/
def fnHiCubesWrong : ChangeSpec := { name := "fnHiCubes", fn := fun _ => fun
  | [d1, d2, d3, d4, d5] => { results := [.lit (.bool false)], args := [d1, d2, d3, d4, d5] }
  | _ => none }
def FnHiCubesWrongFalsely : Prop := fnHiCubesRow.holds Tryd.pinned (OpenSpec.ofChange fnHiCubesWrong)

/-- 'laws.FnHiMirror': WHATEVER THE INPUT: true; the input reads as it did. -/
def fnHiMirrorSpec : ChangeSpec := { name := "fnHiMirror", fn := fun _ => fun
  | [d1, d2, d3] => { results := [.lit (.bool true)], args := [d1, d2, d3] }
  | _ => none }
def fnHiMirrorRow : OpenClaim := { program := "ytidbohofjljkcaadoor", sum := "05c2d6ec8d0d5bffeca6bb18aaaa23c2f6cdb7928e36d564405d9d91b6d9b345", func := "pub-loxodrome/laws.FnHiMirror", spec := "fnHiMirror", unfollowed := true, recurses := true, named := ["pub-loxodrome/pub/gonum/spatial/curve.ErrUnderflow", "pub-loxodrome/pub/gonum/spatial/curve.ErrOverflow"], apart := false, laid := [("pub-loxodrome/pub/gonum/spatial/curve.ErrUnderflow", laid_pub_loxodrome_pub_gonum_spatial_curve_ErrUnderflow), ("pub-loxodrome/pub/gonum/spatial/curve.ErrOverflow", laid_pub_loxodrome_pub_gonum_spatial_curve_ErrOverflow)] }
def FnHiMirrorSaid : Prop := fnHiMirrorRow.holds Tryd.pinned (OpenSpec.ofChange fnHiMirrorSpec)

/-- ITS FALSE NEIGHBOUR: 'it returns false'. Refute it at one input. -/
def fnHiMirrorWrong : ChangeSpec := { name := "fnHiMirror", fn := fun _ => fun
  | [d1, d2, d3] => { results := [.lit (.bool false)], args := [d1, d2, d3] }
  | _ => none }
def FnHiMirrorWrongFalsely : Prop := fnHiMirrorRow.holds Tryd.pinned (OpenSpec.ofChange fnHiMirrorWrong)

/-- 'laws.FnHiSteps': WHATEVER THE INPUT: true; the input reads as it did. -/
def fnHiStepsSpec : ChangeSpec := { name := "fnHiSteps", fn := fun _ => fun
  | [d1, d2, d3, d4] => { results := [.lit (.bool true)], args := [d1, d2, d3, d4] }
  | _ => none }
def fnHiStepsRow : OpenClaim := { program := "ytidbohofjljkcaadoor", sum := "05c2d6ec8d0d5bffeca6bb18aaaa23c2f6cdb7928e36d564405d9d91b6d9b345", func := "pub-loxodrome/laws.FnHiSteps", spec := "fnHiSteps", unfollowed := true, recurses := true, named := ["pub-loxodrome/pub/gonum/spatial/curve.ErrUnderflow", "pub-loxodrome/pub/gonum/spatial/curve.ErrOverflow"], apart := false, laid := [("pub-loxodrome/pub/gonum/spatial/curve.ErrUnderflow", laid_pub_loxodrome_pub_gonum_spatial_curve_ErrUnderflow), ("pub-loxodrome/pub/gonum/spatial/curve.ErrOverflow", laid_pub_loxodrome_pub_gonum_spatial_curve_ErrOverflow)] }
def FnHiStepsSaid : Prop := fnHiStepsRow.holds Tryd.pinned (OpenSpec.ofChange fnHiStepsSpec)

/-- ITS FALSE NEIGHBOUR: 'it returns false'. Refute it at one input. -/
def fnHiStepsWrong : ChangeSpec := { name := "fnHiSteps", fn := fun _ => fun
  | [d1, d2, d3, d4] => { results := [.lit (.bool false)], args := [d1, d2, d3, d4] }
  | _ => none }
def FnHiStepsWrongFalsely : Prop := fnHiStepsRow.holds Tryd.pinned (OpenSpec.ofChange fnHiStepsWrong)

/-- 'laws.FnHiWhole': WHATEVER THE INPUT: true; the input reads as it did. -/
def fnHiWholeSpec : ChangeSpec := { name := "fnHiWhole", fn := fun _ => fun
  | [d1, d2] => { results := [.lit (.bool true)], args := [d1, d2] }
  | _ => none }
def fnHiWholeRow : OpenClaim := { program := "ytidbohofjljkcaadoor", sum := "05c2d6ec8d0d5bffeca6bb18aaaa23c2f6cdb7928e36d564405d9d91b6d9b345", func := "pub-loxodrome/laws.FnHiWhole", spec := "fnHiWhole", unfollowed := true, recurses := true, named := ["pub-loxodrome/pub/gonum/spatial/curve.ErrUnderflow", "pub-loxodrome/pub/gonum/spatial/curve.ErrOverflow"], apart := false, laid := [("pub-loxodrome/pub/gonum/spatial/curve.ErrUnderflow", laid_pub_loxodrome_pub_gonum_spatial_curve_ErrUnderflow), ("pub-loxodrome/pub/gonum/spatial/curve.ErrOverflow", laid_pub_loxodrome_pub_gonum_spatial_curve_ErrOverflow)] }
def FnHiWholeSaid : Prop := fnHiWholeRow.holds Tryd.pinned (OpenSpec.ofChange fnHiWholeSpec)

/-- ITS FALSE NEIGHBOUR: 'it returns false'. Refute it at one input. -/
def fnHiWholeWrong : ChangeSpec := { name := "fnHiWhole", fn := fun _ => fun
  | [d1, d2] => { results := [.lit (.bool false)], args := [d1, d2] }
  | _ => none }
def FnHiWholeWrongFalsely : Prop := fnHiWholeRow.holds Tryd.pinned (OpenSpec.ofChange fnHiWholeWrong)

/- THE SECOND FORM. 'bulk': how many values and letters a reading holds, each counted each time it is reached (what is shared counts as often as it is met; a slice's spare places count too). A statement '..UptoSaid' is the law's where the arguments, and the package variables that the reading takes, are together of bulk at most 1048576: NARROWER than '..Said'. Prove '..Said' where nothing that the law and all that it calls make is longer than what came in: it says more and counts as full. Else prove '..UptoSaid'. A law counts once. -/
mutual
def uptoBulk {H : Type} : DataW H → Nat
  | .lit (.string bytes) => bytes.length + 1
  | .lit _ => 1
  | .nil => 1
  | .ptr d => uptoBulk d + 1
  | .slice elems spare => uptoBulkAll elems + uptoBulkAll spare + 1
  | .agg parts => uptoBulkAll parts + 1
  | .iface _ d => uptoBulk d + 1
  | .map entries => uptoBulkEntries entries + 1
  | .held _ => 1
def uptoBulkAll {H : Type} : List (DataW H) → Nat
  | [] => 0
  | d :: r => uptoBulk d + uptoBulkAll r
def uptoBulkEntries {H : Type} : List (Lit × DataW H) → Nat
  | [] => 0
  | x :: r => uptoBulkEntry x + uptoBulkEntries r
def uptoBulkEntry {H : Type} : Lit × DataW H → Nat
  | (.string bytes, d) => bytes.length + uptoBulk d + 1
  | (_, d) => uptoBulk d + 1
 end
def uptoSmall : (H : Type) → List (DataW H) → Bool := fun _ ds => decide (uptoBulkAll ds ≤ 1048576)
def OpenSpec.upto (s : _root_.Go.ChangeSpec) : _root_.Go.OpenSpec := { _root_.Go.OpenSpec.ofChange s with cond := some uptoSmall }

/-- 'laws.FnHiCubes', WHERE WHAT IT READS IS OF BULK AT MOST 1048576: true; the input reads as it did. -/
def fnHiCubesUptoRow : OpenClaim := { program := "ytidbohofjljkcaadoor", sum := "05c2d6ec8d0d5bffeca6bb18aaaa23c2f6cdb7928e36d564405d9d91b6d9b345", func := "pub-loxodrome/laws.FnHiCubes", spec := "fnHiCubes", unfollowed := true, recurses := true, named := ["pub-loxodrome/pub/gonum/spatial/curve.ErrUnderflow", "pub-loxodrome/pub/gonum/spatial/curve.ErrOverflow"], apart := false, laid := [("pub-loxodrome/pub/gonum/spatial/curve.ErrUnderflow", laid_pub_loxodrome_pub_gonum_spatial_curve_ErrUnderflow), ("pub-loxodrome/pub/gonum/spatial/curve.ErrOverflow", laid_pub_loxodrome_pub_gonum_spatial_curve_ErrOverflow)], narrowed := true }
def FnHiCubesUptoSaid : Prop := fnHiCubesUptoRow.holds Tryd.pinned (OpenSpec.upto fnHiCubesSpec)

/-- 'laws.FnHiMirror', WHERE WHAT IT READS IS OF BULK AT MOST 1048576: true; the input reads as it did. -/
def fnHiMirrorUptoRow : OpenClaim := { program := "ytidbohofjljkcaadoor", sum := "05c2d6ec8d0d5bffeca6bb18aaaa23c2f6cdb7928e36d564405d9d91b6d9b345", func := "pub-loxodrome/laws.FnHiMirror", spec := "fnHiMirror", unfollowed := true, recurses := true, named := ["pub-loxodrome/pub/gonum/spatial/curve.ErrUnderflow", "pub-loxodrome/pub/gonum/spatial/curve.ErrOverflow"], apart := false, laid := [("pub-loxodrome/pub/gonum/spatial/curve.ErrUnderflow", laid_pub_loxodrome_pub_gonum_spatial_curve_ErrUnderflow), ("pub-loxodrome/pub/gonum/spatial/curve.ErrOverflow", laid_pub_loxodrome_pub_gonum_spatial_curve_ErrOverflow)], narrowed := true }
def FnHiMirrorUptoSaid : Prop := fnHiMirrorUptoRow.holds Tryd.pinned (OpenSpec.upto fnHiMirrorSpec)

/-- 'laws.FnHiSteps', WHERE WHAT IT READS IS OF BULK AT MOST 1048576: true; the input reads as it did. -/
def fnHiStepsUptoRow : OpenClaim := { program := "ytidbohofjljkcaadoor", sum := "05c2d6ec8d0d5bffeca6bb18aaaa23c2f6cdb7928e36d564405d9d91b6d9b345", func := "pub-loxodrome/laws.FnHiSteps", spec := "fnHiSteps", unfollowed := true, recurses := true, named := ["pub-loxodrome/pub/gonum/spatial/curve.ErrUnderflow", "pub-loxodrome/pub/gonum/spatial/curve.ErrOverflow"], apart := false, laid := [("pub-loxodrome/pub/gonum/spatial/curve.ErrUnderflow", laid_pub_loxodrome_pub_gonum_spatial_curve_ErrUnderflow), ("pub-loxodrome/pub/gonum/spatial/curve.ErrOverflow", laid_pub_loxodrome_pub_gonum_spatial_curve_ErrOverflow)], narrowed := true }
def FnHiStepsUptoSaid : Prop := fnHiStepsUptoRow.holds Tryd.pinned (OpenSpec.upto fnHiStepsSpec)

/-- 'laws.FnHiWhole', WHERE WHAT IT READS IS OF BULK AT MOST 1048576: true; the input reads as it did. -/
def fnHiWholeUptoRow : OpenClaim := { program := "ytidbohofjljkcaadoor", sum := "05c2d6ec8d0d5bffeca6bb18aaaa23c2f6cdb7928e36d564405d9d91b6d9b345", func := "pub-loxodrome/laws.FnHiWhole", spec := "fnHiWhole", unfollowed := true, recurses := true, named := ["pub-loxodrome/pub/gonum/spatial/curve.ErrUnderflow", "pub-loxodrome/pub/gonum/spatial/curve.ErrOverflow"], apart := false, laid := [("pub-loxodrome/pub/gonum/spatial/curve.ErrUnderflow", laid_pub_loxodrome_pub_gonum_spatial_curve_ErrUnderflow), ("pub-loxodrome/pub/gonum/spatial/curve.ErrOverflow", laid_pub_loxodrome_pub_gonum_spatial_curve_ErrOverflow)], narrowed := true }
def FnHiWholeUptoSaid : Prop := fnHiWholeUptoRow.holds Tryd.pinned (OpenSpec.upto fnHiWholeSpec)

end Rows
end Go.Proofs.YtidbohofjljkcaaDoor
