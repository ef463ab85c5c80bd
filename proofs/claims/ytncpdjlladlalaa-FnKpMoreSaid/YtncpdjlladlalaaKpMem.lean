/- A keeper's heap in memory. Conditions: none. -/
import Derived.Test.YtncpdjlladlalaaKpPlain
namespace Lox
open Go Go.RowKit
set_option linter.unusedVariables false

/-- The bits of infinity. -/
def INF : Nat := 9218868437227405312

theorem order_inf {d : Nat} (h : Fin d) : FloatKind.f64.format.order d INF = some .lt := by
  obtain ⟨s, m, i, e⟩ := h
  have e' : FloatKind.f64.format.read d = .number s m i := e
  have e2 : FloatKind.f64.format.read INF = .infinity false := by decide
  unfold Ieee.Format.order
  rw [e', e2]
  rfl

/-- What stands in memory for an element: its interface value and its number's bits. -/
def ElAt (PT : TypeId) (v : Value) (b : Nat) : El → Prop
  | none => v = .nilIface ∧ b = INF
  | some d => b = d ∧ Fin d ∧ ∃ A, v = .iface PT A

def flat (vs : List (Value × Nat)) : List Value := vs.flatMap fun p => [p.1, .float .f64 p.2]

theorem flat_length (vs : List (Value × Nat)) : (flat vs).length = 2 * vs.length := by
  induction vs with
  | nil => rfl
  | cons p vs ih => simp only [flat, List.flatMap_cons, List.length_append, List.length_cons, List.length_nil] at ih ⊢; omega

theorem flat_get (vs : List (Value × Nat)) : ∀ (i : Nat) (v : Value) (b : Nat), vs[i]? = some (v, b) → (flat vs)[i * 2]? = some v ∧ (flat vs)[i * 2 + 1]? = some (.float .f64 b) := by
  induction vs with
  | nil => intro i v b h; simp at h
  | cons p vs ih =>
    intro i v b h
    cases i with
    | zero =>
      simp at h
      subst h
      exact ⟨rfl, rfl⟩
    | succ i =>
      have := ih i v b (by simpa using h)
      have e : (i + 1) * 2 = i * 2 + 1 + 1 := by omega
      rw [e]
      exact ⟨this.1, this.2⟩

theorem flat_set (vs : List (Value × Nat)) : ∀ (i : Nat) (v : Value) (b : Nat), i < vs.length → ((flat vs).set (i * 2) v).set (i * 2 + 1) (.float .f64 b) = flat (vs.set i (v, b)) := by
  induction vs with
  | nil => intro i v b h; simp at h
  | cons p vs ih =>
    intro i v b h
    cases i with
    | zero => rfl
    | succ i =>
      have e : (i + 1) * 2 = i * 2 + 1 + 1 := by omega
      rw [e]
      have := ih i v b (by simpa using h)
      show p.1 :: .float .f64 p.2 :: ((flat vs).set (i * 2) v).set (i * 2 + 1) (.float .f64 b) = _
      rw [this]
      rfl

theorem flat_append (vs us : List (Value × Nat)) : flat (vs ++ us) = flat vs ++ flat us := by simp [flat]

/-- The pairs of cells hold these elements. -/
def Pairs (PT : TypeId) (vs : List (Value × Nat)) (els : List El) : Prop :=
  vs.length = els.length ∧ ∀ (i : Nat) (v : Value) (b : Nat), vs[i]? = some (v, b) → ElAt PT v b (at' els i)

theorem Pairs.get {PT : TypeId} {vs : List (Value × Nat)} {els : List El} (h : Pairs PT vs els) {i : Nat} (hi : i < els.length) : ∃ v b, vs[i]? = some (v, b) ∧ ElAt PT v b (at' els i) := by
  have hl : i < vs.length := by rw [h.1]; exact hi
  obtain ⟨p, ep⟩ : ∃ p, p = vs[i] := ⟨_, rfl⟩
  have e : vs[i]? = some (p.1, p.2) := by rw [List.getElem?_eq_getElem hl, ← ep]
  exact ⟨p.1, p.2, e, h.2 i _ _ e⟩

theorem at_set {l : List El} {i : Nat} (x : El) (hi : i < l.length) (k : Nat) : at' (l.set i x) k = if k = i then x else at' l k := by
  unfold at'
  simp only [List.getD_eq_getElem?_getD, List.getElem?_set]
  by_cases h : k = i
  · subst h; simp [hi]
  · simp [h, Ne.symm h]

theorem Pairs.set {PT : TypeId} {vs : List (Value × Nat)} {els : List El} (h : Pairs PT vs els) {i : Nat} (hi : i < els.length) {v : Value} {b : Nat} {x : El} (hx : ElAt PT v b x) : Pairs PT (vs.set i (v, b)) (els.set i x) := by
  refine ⟨by simp [h.1], fun k u c hk => ?_⟩
  rw [at_set x hi]
  rw [List.getElem?_set] at hk
  by_cases hki : i = k
  · subst hki
    rw [if_pos rfl, if_pos (by rw [h.1]; exact hi)] at hk
    cases hk
    rw [if_pos rfl]
    exact hx
  · rw [if_neg hki] at hk
    rw [if_neg (Ne.symm hki)]
    exact h.2 k u c hk

theorem Pairs.snoc {PT : TypeId} {vs : List (Value × Nat)} {els : List El} (h : Pairs PT vs els) {v : Value} {b : Nat} {x : El} (hx : ElAt PT v b x) : Pairs PT (vs ++ [(v, b)]) (els ++ [x]) := by
  refine ⟨by simp [h.1], fun k u c hk => ?_⟩
  rw [at_append]
  by_cases hkl : k < vs.length
  · rw [List.getElem?_append_left hkl] at hk
    rw [if_pos (by rw [← h.1]; exact hkl)]
    exact h.2 k u c hk
  · rw [List.getElem?_append_right (by omega)] at hk
    have hk0 : k - vs.length = 0 := by
      rcases Nat.eq_zero_or_pos (k - vs.length) with h0 | h0
      · exact h0
      · rw [List.getElem?_eq_none (by simp; omega)] at hk; cases hk
    rw [hk0] at hk
    simp at hk
    obtain ⟨rfl, rfl⟩ := hk
    rw [if_neg (by rw [← h.1]; exact hkl), if_pos (by rw [← h.1]; omega)]
    exact hx

theorem Pairs.take {PT : TypeId} {vs : List (Value × Nat)} {els : List El} (h : Pairs PT vs els) (n : Nat) : Pairs PT (vs.take n) (els.take n) := by
  refine ⟨by simp [h.1], fun k u c hk => ?_⟩
  rw [List.getElem?_take] at hk
  by_cases hkn : k < n
  · rw [if_pos hkn] at hk
    have := h.2 k u c hk
    unfold at' at *
    rw [List.getD_eq_getElem?_getD, List.getElem?_take_of_lt hkn, ← List.getD_eq_getElem?_getD]
    exact this
  · rw [if_neg hkn] at hk; cases hk

/-- A keeper's memory: its struct in block kb, its heap's array in block hb. NK, CD, PT: the types of the keeper, of an array's element, of a point. -/
def KS (NK CD PT : TypeId) (w : World) (kb hb len cap : Nat) (els : List El) : Prop :=
  ∃ vs sp, Blk w kb NK [.slice (some ⟨hb, 0, none⟩) len cap] ∧ Blk w hb CD (flat vs ++ sp) ∧ sp.length = 2 * (cap - len) ∧ len = els.length ∧ len ≤ cap ∧ Pairs PT vs els ∧ kb ≠ hb

section
variable {NK CD PT : TypeId} {w w' : World} {kb hb len cap : Nat} {els : List El}

theorem KS.drewN (h : KS NK CD PT w kb hb len cap els) (n : Nat) : KS NK CD PT (w.drewN n) kb hb len cap els := h
theorem KS.drew (h : KS NK CD PT w kb hb len cap els) : KS NK CD PT w.drew kb hb len cap els := h

theorem KS.mod {S : Nat → Prop} (h : KS NK CD PT w kb hb len cap els) (hm : Mod S w w') (h1 : ¬ S kb) (h2 : ¬ S hb) : KS NK CD PT w' kb hb len cap els := by
  obtain ⟨vs, sp, b1, b2, rest⟩ := h
  exact ⟨vs, sp, b1.mod hm h1, b2.mod hm h2, rest⟩

/-- The cells of an element. -/
theorem KS.at (h : KS NK CD PT w kb hb len cap els) {i : Nat} (hi : i < len) : ∃ v b, w.cell? ⟨hb, i * 2, none⟩ = some v ∧ w.cell? ⟨hb, i * 2 + 1, none⟩ = some (.float .f64 b) ∧ w.frozen? ⟨hb, i * 2, none⟩ = false ∧ w.frozen? ⟨hb, i * 2 + 1, none⟩ = false ∧ ElAt PT v b (at' els i) := by
  obtain ⟨vs, sp, b1, b2, hsp, hl, hc, hp, hne⟩ := h
  obtain ⟨v, b, e, he⟩ := hp.get (i := i) (by omega)
  obtain ⟨g1, g2⟩ := flat_get vs i v b e
  have hlt : i < vs.length := (List.getElem?_eq_some_iff.1 e).1
  have hfl := flat_length vs
  exact ⟨v, b, b2.at (by rw [List.getElem?_append_left (by omega)]; exact g1), b2.at (by rw [List.getElem?_append_left (by omega)]; exact g2), b2.frozen _, b2.frozen _, he⟩

theorem KS.top (h : KS NK CD PT w kb hb len cap els) : w.cell? ⟨kb, 0, none⟩ = some (.slice (some ⟨hb, 0, none⟩) len cap) ∧ w.frozen? ⟨kb, 0, none⟩ = false := by
  obtain ⟨vs, sp, b1, _⟩ := h
  exact ⟨b1.at (i := 0) rfl, b1.frozen 0⟩

/-- An element is written. -/
theorem KS.put (h : KS NK CD PT w kb hb len cap els) {i : Nat} (hi : i < len) {v : Value} {b : Nat} {x : El} (hx : ElAt PT v b x) :
    KS NK CD PT ((w.setCell ⟨hb, i * 2, none⟩ v).setCell ⟨hb, i * 2 + 1, none⟩ (.float .f64 b)) kb hb len cap (els.set i x) := by
  obtain ⟨vs, sp, b1, b2, hsp, hl, hc, hp, hne⟩ := h
  have hvl : vs.length = els.length := hp.1
  refine ⟨vs.set i (v, b), sp, (b1.other _ (Ne.symm hne)).other _ (Ne.symm hne), ?_, hsp, by simpa using hl, hc, hp.set (by omega) hx, hne⟩
  have := (b2.set (i * 2) v).set (i * 2 + 1) (.float .f64 b)
  have hfl := flat_length vs
  rw [List.set_append_left _ _ (by omega), List.set_append_left _ _ (by rw [List.length_set]; omega), flat_set vs i v b (by omega)] at this
  exact this

/-- An element more is written where there is room. -/
theorem KS.push (h : KS NK CD PT w kb hb len cap els) (hr : len < cap) {v : Value} {b : Nat} {x : El} (hx : ElAt PT v b x) :
    KS NK CD PT (((w.setCell ⟨hb, len * 2, none⟩ v).setCell ⟨hb, len * 2 + 1, none⟩ (.float .f64 b)).setCell ⟨kb, 0, none⟩ (.slice (some ⟨hb, 0, none⟩) (len + 1) cap)) kb hb (len + 1) cap (els ++ [x]) := by
  obtain ⟨vs, sp, b1, b2, hsp, hl, hc, hp, hne⟩ := h
  have hvl : vs.length = els.length := hp.1
  have hfl := flat_length vs
  match sp, hsp with
  | s0 :: s1 :: sp', hsp =>
    refine ⟨vs ++ [(v, b)], sp', ((b1.other _ (Ne.symm hne)).other _ (Ne.symm hne)).set 0 _, ?_, by simp at hsp; omega, by simp; omega, by omega, hp.snoc hx, hne⟩
    have h3 := ((b2.set (len * 2) v).set (len * 2 + 1) (.float .f64 b)).other (a := ⟨kb, 0, none⟩) (.slice (some ⟨hb, 0, none⟩) (len + 1) cap) hne
    have key : ((flat vs ++ s0 :: s1 :: sp').set (len * 2) v).set (len * 2 + 1) (.float .f64 b) = flat (vs ++ [(v, b)]) ++ sp' := by
      have e1 : len * 2 = (flat vs).length := by omega
      rw [e1, List.set_append_right _ _ (Nat.le_refl _), List.set_append_right _ _ (by omega), flat_append, List.append_assoc, Nat.sub_self, Nat.add_sub_cancel_left]
      rfl
    rw [key] at h3
    exact h3
  | [], hsp => simp at hsp; omega
  | [_], hsp => simp at hsp; omega

theorem KS.put0 (h : KS NK CD PT w kb hb len cap els) (hi : 0 < len) {v : Value} {b : Nat} {x : El} (hx : ElAt PT v b x) :
    KS NK CD PT ((w.setCell ⟨hb, 0, none⟩ v).setCell ⟨hb, 1, none⟩ (.float .f64 b)) kb hb len cap (els.set 0 x) := h.put hi hx

/-- The cells behind the last element. -/
theorem KS.room (h : KS NK CD PT w kb hb len cap els) (hr : len < cap) (j : Nat) (hj : j < 2) : (w.cell? ⟨hb, len * 2 + j, none⟩).isSome = true ∧ w.frozen? ⟨hb, len * 2 + j, none⟩ = false := by
  obtain ⟨vs, sp, b1, b2, hsp, hl, hc, hp, hne⟩ := h
  have hvl : vs.length = els.length := hp.1
  have hfl := flat_length vs
  refine ⟨?_, b2.frozen _⟩
  rw [b2.cell, List.getElem?_eq_getElem (by rw [List.length_append]; omega)]
  rfl

theorem KS.alloc (h : KS NK CD PT w kb hb len cap els) (o : Obj) : KS NK CD PT (w.alloc o) kb hb len cap els := h.mod ((Mod.refl (fun _ => False) w).alloc o) (fun h => h) (fun h => h)

theorem mod_drewN (S : Nat → Prop) (w : World) (n : Nat) : Mod S w (w.drewN n) := ⟨rfl, rfl, rfl, Nat.le_refl _, fun _ _ _ => rfl⟩

theorem mod_put {hb a b : Nat} {x y : Value} (h : Mod (fun k => k = hb) w w') : Mod (fun k => k = hb) w ((w'.setCell ⟨hb, a, none⟩ x).setCell ⟨hb, b, none⟩ y) := by
  have h1 : Mod (fun k => k = hb) w (w'.setCell ⟨hb, a, none⟩ x) := h.set (p := ⟨hb, a, none⟩) (.inl (by rfl)) x
  exact h1.set (p := ⟨hb, b, none⟩) (.inl (by rfl)) y

theorem KS.bds (h : KS NK CD PT w kb hb len cap els) : kb ≠ hb ∧ kb < w.heap.size ∧ hb < w.heap.size ∧ len = els.length ∧ len ≤ cap := by
  obtain ⟨vs, sp, b1, b2, hsp, hl, hc, hp, hne⟩ := h
  exact ⟨hne, b1.lt, b2.lt, hl, hc⟩
end
end Lox
