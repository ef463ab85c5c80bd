/- A map literal of whole numbers that the call itself makes: its stores and its look-up. Conditions: the keys differ. -/
import Derived.Test.YtidbohofjljkcaaDoorKit
import Derived.MapKept
namespace Lox
open Go Go.RowKit Go.MapKept

/-- Block r is set to a map. -/
def putMap (w : World) (r : Nat) (es : Array MapEntry) (c : Nat) : World := { w with heap := w.heap.setIfInBounds r (.map es c) }

theorem putMap_at {w : World} {r : Nat} (es : Array MapEntry) (c : Nat) (h : r < w.heap.size) : (putMap w r es c).heap[r]? = some (.map es c) := by
  simp [putMap, h]

theorem putMap_size (w : World) (r : Nat) (es : Array MapEntry) (c : Nat) : (putMap w r es c).heap.size = w.heap.size := by simp [putMap]

theorem putMap_far {w : World} {r k : Nat} (es : Array MapEntry) (c : Nat) (h : k ≠ r) : (putMap w r es c).heap[k]? = w.heap[k]? := by
  simp [putMap, Ne.symm h]

theorem Mod.putMap {S : Nat → Prop} {a w : World} (h : Mod S a w) {r : Nat} (hr : a.heap.size ≤ r) (es : Array MapEntry) (c : Nat) : Mod S a (Lox.putMap w r es c) :=
  ⟨h.os, h.tape, h.output, by rw [putMap_size]; exact h.size, fun k hk hn => by rw [putMap_far _ _ (by omega)]; exact h.block k hk hn⟩

theorem run_put {P : Program} {w : World} {t k e : TypeId} (ht : P.underlying t = some (.map k e)) (hk : P.underlying k = some (.int .i64)) {r : Nat} {es : Array MapEntry} {c : Nat}
    (h : w.heap[r]? = some (.map es c)) {x : Int} {v : Value} (hn : Instr.findNow (.int .i64) (.int .i64 x) es.toList 0 = some none) :
    (Instr.mapUpdate t (.map (some r)) (.int .i64 x) v).run P w = .ok () (putMap w r (es.push ⟨.int .i64 x, v, c⟩) (c + 1)) := by
  unfold Instr.mapUpdate
  simp only [Sem.run_bind, run_underlying ht, Result.andThen, run_getObj_map h, run_checkKey hk (k := .int .i64 x) (by simp [IsKey]), run_findKey hk hn, run_setObj_map _ h]
  rfl

theorem run_get {P : Program} {w : World} {t k e : TypeId} (ht : P.underlying t = some (.map k e)) (hk : P.underlying k = some (.int .i64)) {r : Nat} {es : Array MapEntry} {c : Nat}
    (h : w.heap[r]? = some (.map es c)) {x : Int} {i : Nat} {v : Value} (hn : Instr.findNow (.int .i64) (.int .i64 x) es.toList 0 = some (some (i, v))) :
    (Instr.lookup t (.map (some r)) (.int .i64 x) false).run P w = .ok v w := by
  unfold Instr.lookup
  simp only [Sem.run_bind, run_underlying ht, Result.andThen, run_getObj_map h, Sem.run_pure, run_checkKey hk (k := .int .i64 x) (by simp [IsKey]), run_findKey hk hn]
  rfl

theorem run_get_none {P : Program} {w : World} {t k e : TypeId} (ht : P.underlying t = some (.map k e)) (hk : P.underlying k = some (.int .i64)) {r : Nat} {es : Array MapEntry} {c : Nat}
    (h : w.heap[r]? = some (.map es c)) {x : Int} {z : Value} (hz : (zeroValue e).run P w = .ok z w) (hn : Instr.findNow (.int .i64) (.int .i64 x) es.toList 0 = some none) :
    (Instr.lookup t (.map (some r)) (.int .i64 x) false).run P w = .ok z w := by
  unfold Instr.lookup
  simp only [Sem.run_bind, run_underlying ht, Result.andThen, run_getObj_map h, Sem.run_pure, run_checkKey hk (k := .int .i64 x) (by simp [IsKey]), run_findKey hk hn, hz]
  rfl
end Lox
