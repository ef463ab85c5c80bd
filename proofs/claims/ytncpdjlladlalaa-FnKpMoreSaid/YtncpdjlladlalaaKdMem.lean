/- The heap of a keeper within a distance in memory: the mark's number is that distance. Conditions: none. -/
import Derived.Test.YtncpdjlladlalaaKpMem
namespace Lox
open Go Go.RowKit
set_option linter.unusedVariables false

/-- A finite number that is not above S. -/
def FinS (S d : Nat) : Prop := Fin d ∧ (FloatKind.f64.format.order d S == some .gt) = false

/-- What stands in memory for an element: its interface value and its number's bits. -/
def ElAtD (S : Nat) (PT : TypeId) (v : Value) (b : Nat) : El → Prop
  | none => v = .nilIface ∧ b = S
  | some d => b = d ∧ FinS S d ∧ ∃ A, v = .iface PT A

/-- The pairs of cells hold these elements. -/
def PairsD (S : Nat) (PT : TypeId) (vs : List (Value × Nat)) (els : List El) : Prop :=
  vs.length = els.length ∧ ∀ (i : Nat) (v : Value) (b : Nat), vs[i]? = some (v, b) → ElAtD S PT v b (at' els i)

theorem PairsD.get {S : Nat} {PT : TypeId} {vs : List (Value × Nat)} {els : List El} (h : PairsD S PT vs els) {i : Nat} (hi : i < els.length) : ∃ v b, vs[i]? = some (v, b) ∧ ElAtD S PT v b (at' els i) := by
  have hl : i < vs.length := by rw [h.1]; exact hi
  obtain ⟨p, ep⟩ : ∃ p, p = vs[i] := ⟨_, rfl⟩
  have e : vs[i]? = some (p.1, p.2) := by rw [List.getElem?_eq_getElem hl, ← ep]
  exact ⟨p.1, p.2, e, h.2 i _ _ e⟩

theorem PairsD.set {S : Nat} {PT : TypeId} {vs : List (Value × Nat)} {els : List El} (h : PairsD S PT vs els) {i : Nat} (hi : i < els.length) {v : Value} {b : Nat} {x : El} (hx : ElAtD S PT v b x) : PairsD S PT (vs.set i (v, b)) (els.set i x) := by
  refine ⟨by simp [h.1], fun k u c hk => ?_⟩
  rw [at_set x hi]
  rw [List.getElem?_set] at hk
  by_cases hki : i = k
  · subst hki
    rw [if_pos rfl, if_pos (by rw [h.1]; exact hi)] at hk
    cases hk
    rw [if_pos rfl]
    exact hx
  · rw [if_neg hki] at hk
    rw [if_neg (Ne.symm hki)]
    exact h.2 k u c hk

theorem PairsD.snoc {S : Nat} {PT : TypeId} {vs : List (Value × Nat)} {els : List El} (h : PairsD S PT vs els) {v : Value} {b : Nat} {x : El} (hx : ElAtD S PT v b x) : PairsD S PT (vs ++ [(v, b)]) (els ++ [x]) := by
  refine ⟨by simp [h.1], fun k u c hk => ?_⟩
  rw [at_append]
  by_cases hkl : k < vs.length
  · rw [List.getElem?_append_left hkl] at hk
    rw [if_pos (by rw [← h.1]; exact hkl)]
    exact h.2 k u c hk
  · rw [List.getElem?_append_right (by omega)] at hk
    have hk0 : k - vs.length = 0 := by
      rcases Nat.eq_zero_or_pos (k - vs.length) with h0 | h0
      · exact h0
      · rw [List.getElem?_eq_none (by simp; omega)] at hk; cases hk
    rw [hk0] at hk
    simp at hk
    obtain ⟨rfl, rfl⟩ := hk
    rw [if_neg (by rw [← h.1]; exact hkl), if_pos (by rw [← h.1]; omega)]
    exact hx

theorem PairsD.take {S : Nat} {PT : TypeId} {vs : List (Value × Nat)} {els : List El} (h : PairsD S PT vs els) (n : Nat) : PairsD S PT (vs.take n) (els.take n) := by
  refine ⟨by simp [h.1], fun k u c hk => ?_⟩
  rw [List.getElem?_take] at hk
  by_cases hkn : k < n
  · rw [if_pos hkn] at hk
    have := h.2 k u c hk
    unfold at' at *
    rw [List.getD_eq_getElem?_getD, List.getElem?_take_of_lt hkn, ← List.getD_eq_getElem?_getD]
    exact this
  · rw [if_neg hkn] at hk; cases hk

/-- A keeper's memory: its struct in block kb, its heap's array in block hb. NK, CD, PT: the types of the keeper, of an array's element, of a point. -/
def KD (S : Nat) (NK CD PT : TypeId) (w : World) (kb hb len cap : Nat) (els : List El) : Prop :=
  ∃ vs sp, Blk w kb NK [.slice (some ⟨hb, 0, none⟩) len cap] ∧ Blk w hb CD (flat vs ++ sp) ∧ sp.length = 2 * (cap - len) ∧ len = els.length ∧ len ≤ cap ∧ PairsD S PT vs els ∧ kb ≠ hb

section
variable {S : Nat} {NK CD PT : TypeId} {w w' : World} {kb hb len cap : Nat} {els : List El}

theorem KD.drewN (h : KD S NK CD PT w kb hb len cap els) (n : Nat) : KD S NK CD PT (w.drewN n) kb hb len cap els := h
theorem KD.drew (h : KD S NK CD PT w kb hb len cap els) : KD S NK CD PT w.drew kb hb len cap els := h

theorem KD.mod {R : Nat → Prop} (h : KD S NK CD PT w kb hb len cap els) (hm : Mod R w w') (h1 : ¬ R kb) (h2 : ¬ R hb) : KD S NK CD PT w' kb hb len cap els := by
  obtain ⟨vs, sp, b1, b2, rest⟩ := h
  exact ⟨vs, sp, b1.mod hm h1, b2.mod hm h2, rest⟩

/-- The cells of an element. -/
theorem KD.at (h : KD S NK CD PT w kb hb len cap els) {i : Nat} (hi : i < len) : ∃ v b, w.cell? ⟨hb, i * 2, none⟩ = some v ∧ w.cell? ⟨hb, i * 2 + 1, none⟩ = some (.float .f64 b) ∧ w.frozen? ⟨hb, i * 2, none⟩ = false ∧ w.frozen? ⟨hb, i * 2 + 1, none⟩ = false ∧ ElAtD S PT v b (at' els i) := by
  obtain ⟨vs, sp, b1, b2, hsp, hl, hc, hp, hne⟩ := h
  obtain ⟨v, b, e, he⟩ := hp.get (i := i) (by omega)
  obtain ⟨g1, g2⟩ := flat_get vs i v b e
  have hlt : i < vs.length := (List.getElem?_eq_some_iff.1 e).1
  have hfl := flat_length vs
  exact ⟨v, b, b2.at (by rw [List.getElem?_append_left (by omega)]; exact g1), b2.at (by rw [List.getElem?_append_left (by omega)]; exact g2), b2.frozen _, b2.frozen _, he⟩

theorem KD.top (h : KD S NK CD PT w kb hb len cap els) : w.cell? ⟨kb, 0, none⟩ = some (.slice (some ⟨hb, 0, none⟩) len cap) ∧ w.frozen? ⟨kb, 0, none⟩ = false := by
  obtain ⟨vs, sp, b1, _⟩ := h
  exact ⟨b1.at (i := 0) rfl, b1.frozen 0⟩

/-- An element is written. -/
theorem KD.put (h : KD S NK CD PT w kb hb len cap els) {i : Nat} (hi : i < len) {v : Value} {b : Nat} {x : El} (hx : ElAtD S PT v b x) :
    KD S NK CD PT ((w.setCell ⟨hb, i * 2, none⟩ v).setCell ⟨hb, i * 2 + 1, none⟩ (.float .f64 b)) kb hb len cap (els.set i x) := by
  obtain ⟨vs, sp, b1, b2, hsp, hl, hc, hp, hne⟩ := h
  have hvl : vs.length = els.length := hp.1
  refine ⟨vs.set i (v, b), sp, (b1.other _ (Ne.symm hne)).other _ (Ne.symm hne), ?_, hsp, by simpa using hl, hc, hp.set (by omega) hx, hne⟩
  have := (b2.set (i * 2) v).set (i * 2 + 1) (.float .f64 b)
  have hfl := flat_length vs
  rw [List.set_append_left _ _ (by omega), List.set_append_left _ _ (by rw [List.length_set]; omega), flat_set vs i v b (by omega)] at this
  exact this

/-- An element more is written where there is room. -/
theorem KD.push (h : KD S NK CD PT w kb hb len cap els) (hr : len < cap) {v : Value} {b : Nat} {x : El} (hx : ElAtD S PT v b x) :
    KD S NK CD PT (((w.setCell ⟨hb, len * 2, none⟩ v).setCell ⟨hb, len * 2 + 1, none⟩ (.float .f64 b)).setCell ⟨kb, 0, none⟩ (.slice (some ⟨hb, 0, none⟩) (len + 1) cap)) kb hb (len + 1) cap (els ++ [x]) := by
  obtain ⟨vs, sp, b1, b2, hsp, hl, hc, hp, hne⟩ := h
  have hvl : vs.length = els.length := hp.1
  have hfl := flat_length vs
  match sp, hsp with
  | s0 :: s1 :: sp', hsp =>
    refine ⟨vs ++ [(v, b)], sp', ((b1.other _ (Ne.symm hne)).other _ (Ne.symm hne)).set 0 _, ?_, by simp at hsp; omega, by simp; omega, by omega, hp.snoc hx, hne⟩
    have h3 := ((b2.set (len * 2) v).set (len * 2 + 1) (.float .f64 b)).other (a := ⟨kb, 0, none⟩) (.slice (some ⟨hb, 0, none⟩) (len + 1) cap) hne
    have key : ((flat vs ++ s0 :: s1 :: sp').set (len * 2) v).set (len * 2 + 1) (.float .f64 b) = flat (vs ++ [(v, b)]) ++ sp' := by
      have e1 : len * 2 = (flat vs).length := by omega
      rw [e1, List.set_append_right _ _ (Nat.le_refl _), List.set_append_right _ _ (by omega), flat_append, List.append_assoc, Nat.sub_self, Nat.add_sub_cancel_left]
      rfl
    rw [key] at h3
    exact h3
  | [], hsp => simp at hsp; omega
  | [_], hsp => simp at hsp; omega

theorem KD.put0 (h : KD S NK CD PT w kb hb len cap els) (hi : 0 < len) {v : Value} {b : Nat} {x : El} (hx : ElAtD S PT v b x) :
    KD S NK CD PT ((w.setCell ⟨hb, 0, none⟩ v).setCell ⟨hb, 1, none⟩ (.float .f64 b)) kb hb len cap (els.set 0 x) := h.put hi hx

/-- The cells behind the last element. -/
theorem KD.room (h : KD S NK CD PT w kb hb len cap els) (hr : len < cap) (j : Nat) (hj : j < 2) : (w.cell? ⟨hb, len * 2 + j, none⟩).isSome = true ∧ w.frozen? ⟨hb, len * 2 + j, none⟩ = false := by
  obtain ⟨vs, sp, b1, b2, hsp, hl, hc, hp, hne⟩ := h
  have hvl : vs.length = els.length := hp.1
  have hfl := flat_length vs
  refine ⟨?_, b2.frozen _⟩
  rw [b2.cell, List.getElem?_eq_getElem (by rw [List.length_append]; omega)]
  rfl

theorem KD.alloc (h : KD S NK CD PT w kb hb len cap els) (o : Obj) : KD S NK CD PT (w.alloc o) kb hb len cap els := h.mod ((Mod.refl (fun _ => False) w).alloc o) (fun h => h) (fun h => h)

theorem KD.bds (h : KD S NK CD PT w kb hb len cap els) : kb ≠ hb ∧ kb < w.heap.size ∧ hb < w.heap.size ∧ len = els.length ∧ len ≤ cap := by
  obtain ⟨vs, sp, b1, b2, hsp, hl, hc, hp, hne⟩ := h
  exact ⟨hne, b1.lt, b2.lt, hl, hc⟩
end
end Lox
