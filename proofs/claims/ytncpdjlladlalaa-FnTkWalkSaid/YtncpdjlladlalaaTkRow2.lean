/- What the second loop of FnTkWalk reads in a round, in plain Lean. Conditions: none. -/
import Derived.Test.YtncpdjlladlalaaTkEdge
import Derived.Test.YtncpdjlladlalaaTkKw
import Derived.Test.YtncpdjlladlalaaTrGrid2
import Derived.Deep.QuietTactic
namespace Go.Proofs.Ytncpdjlladlalaa
open Go.RowKit Lox
set_option linter.unusedVariables false

theorem ino_mem {C F : Nat → Int} {n : Nat} (fuel : Nat) : ∀ (i dep : Nat), n ≤ i + fuel → i < n → ∀ p ∈ ino C F n i dep, 0 ≤ p.1 ∧ p.1 < n := by
  induction fuel with
  | zero => intro i dep h1 h2; omega
  | succ fuel ih =>
    intro i dep h1 h2 p hp
    rw [ino_eq] at hp
    have key : ∀ c : Int, p ∈ chl C F n c i (dep + 1) → 0 ≤ p.1 ∧ p.1 < n := fun c hc => by
      by_cases h : (i : Int) < c ∧ c < n
      · unfold chl at hc
        rw [if_pos h] at hc
        exact ih c.toNat (dep + 1) (by omega) (by omega) p hc
      · rw [chl_none h] at hc
        cases hc
    rcases List.mem_append.1 hp with h | h
    · exact key _ h
    · rcases List.mem_cons.1 h with rfl | h
      · exact ⟨by show (0 : Int) ≤ (i : Int); omega, by show (i : Int) < n; omega⟩
      · exact key _ h

theorem cut_get {stop : Int} {L : List (List Nat × Int)} {k : Nat} (hk : k < (cut stop L).length) : (cut stop L)[k]? = L[k]? := by
  unfold cut at *
  split at hk
  · rename_i h
    rw [if_pos h, List.getElem?_take]
    rw [List.length_take] at hk
    rw [if_pos (by omega)]
  · rename_i h
    rw [if_neg h]

theorem cut_len (stop : Int) (L : List (List Nat × Int)) : (cut stop L).length ≤ L.length ∧ (0 < stop ∧ stop ≤ L.length → ((cut stop L).length : Int) = stop ∧ stopped stop L = true) ∧ (¬ (0 < stop ∧ stop ≤ L.length) → (cut stop L).length = L.length ∧ stopped stop L = false) := by
  unfold cut stopped
  refine ⟨?_, fun h => ?_, fun h => ?_⟩
  · split
    · rw [List.length_take]; omega
    · exact Nat.le_refl _
  · rw [if_pos h, List.length_take]
    exact ⟨by omega, decide_eq_true h⟩
  · rw [if_neg h]
    exact ⟨rfl, decide_eq_false h⟩

/-- What the second loop of the law reads in its round k. -/
def Row2 (xs : List KN) (n b o : Nat) (W : World) (A1 A2 B1 B2 : Option Addr) (k : Nat) : Prop :=
  ∃ (j q cA cX : Nat) (A X : Option Addr) (D : Int) (ys : List Nat) (b1 o1 b2 o2 b3 o3 b4 o4 : Nat), j < n ∧ B1 = some ⟨b1, o1, none⟩ ∧ B2 = some ⟨b2, o2, none⟩ ∧ A1 = some ⟨b3, o3, none⟩ ∧ A2 = some ⟨b4, o4, none⟩ ∧
    W.cell? ⟨b1, o1 + k, none⟩ = some (.slice A q cA) ∧ W.cell? ⟨b2, o2 + k, none⟩ = some (.int .i64 D) ∧ W.cell? ⟨b3, o3 + k, none⟩ = some (.int .i64 (j : Nat)) ∧ W.cell? ⟨b4, o4 + k, none⟩ = some (.int .i64 D) ∧
    W.cell? ⟨b, o + j * 6, none⟩ = some (.slice X q cX) ∧ Sl W A q 1 (flts ys) ∧ Sl W X q 1 (flts ys) ∧ q ≤ 9223372036854775807 ∧ ∃ x ∈ xs, x.p.xs = ys

theorem row2 {xs : List KN} {n m b o : Nat} {w2 w3 W : World} {A1 A2 B1 B2 : Option Addr} {gs : List Value} {stop : Int} {I : List (Int × Int)} (hI : I = ino (KC xs) (KF xs) n 0 0) (hIl : I.length = n) (hn : n = xs.length)
    (h1 : Sl w2 A1 n 1 (ints (I.map (·.1)))) (h2 : Sl w2 A2 n 1 (ints (I.map (·.2)))) (hm : m = (cut stop (I.map fun p => (PX xs p.1, p.2))).length)
    (g1 : Sl w3 B1 m 1 gs) (hp : PtsAt w3 gs ((cut stop (I.map fun p => (PX xs p.1, p.2))).map (·.1))) (g2 : Sl w3 B2 m 1 (ints ((cut stop (I.map fun p => (PX xs p.1, p.2))).map (·.2))))
    (m2 : Mod (fun _ => False) w2 w3) (m3 : Mod (fun _ => False) w3 W) (hx : ∀ (i : Nat) (x : KN), xs[i]? = some x → x.At W b (o + i * 6)) (hok : ∀ x ∈ xs, x.Ok W) {k : Nat} (hk : k < m) : Row2 xs n b o W A1 A2 B1 B2 k := by
  have hkn : k < n := by
    have := (cut_len stop (I.map fun p => (PX xs p.1, p.2))).1
    rw [List.length_map] at this
    omega
  have hkI : k < I.length := by omega
  obtain ⟨p, ep⟩ : ∃ p, p = I[k] := ⟨_, rfl⟩
  have eI : I[k]? = some p := by rw [ep]; exact List.getElem?_eq_getElem hkI
  have hpm : 0 ≤ p.1 ∧ p.1 < n := ino_mem n 0 0 (by omega) (by omega) p (by rw [← hI, ep]; exact List.getElem_mem hkI)
  obtain ⟨j, ej⟩ : ∃ j : Nat, p.1 = (j : Int) := ⟨p.1.toNat, by omega⟩
  have hjn : j < n := by omega
  have hjx : j < xs.length := by omega
  obtain ⟨x, ex⟩ : ∃ x, x = xs[j] := ⟨_, rfl⟩
  have exj : xs[j]? = some x := by rw [ex]; exact List.getElem?_eq_getElem hjx
  have hxm : x ∈ xs := by rw [ex]; exact List.getElem_mem hjx
  have eP : PX xs p.1 = x.p.xs := by rw [ej]; simp [PX, exj]
  have eC : (cut stop (I.map fun p => (PX xs p.1, p.2)))[k]? = some (x.p.xs, p.2) := by
    rw [cut_get (by rw [← hm]; exact hk), List.getElem?_map, eI, ← eP]
    rfl
  obtain ⟨b1, o1, v1, e1, f1, c1⟩ := g1.at1 hk
  obtain ⟨b2, o2, v2, e2, f2, c2⟩ := g2.at1 hk
  obtain ⟨b3, o3, v3, e3, f3, c3⟩ := h1.at1 hkn
  obtain ⟨b4, o4, v4, e4, f4, c4⟩ := h2.at1 hkn
  have mm : Mod (fun _ => False) w2 W := m2.trans m3
  rw [ints_at (x := p.2) (by rw [List.getElem?_map, eC]; rfl)] at f2
  rw [ints_at (x := (j : Int)) (by rw [List.getElem?_map, eI, ← ej]; rfl)] at f3
  rw [ints_at (x := p.2) (by rw [List.getElem?_map, eI]; rfl)] at f4
  cases f2
  cases f3
  cases f4
  obtain ⟨A, q, cA, rfl, hq, hs⟩ := hp.2 k v1 x.p.xs f1 (by rw [List.getElem?_map, eC]; rfl)
  have hO := (hok x hxm).1
  have hl1 : x.p.xs.length = q := by have := hs.1; simpa [flts] using this
  have hl2 : x.p.xs.length = x.p.n := hO.len
  have hqn : x.p.n = q := by omega
  have c5 := (hx j x exj).1
  unfold Pt.v at c5
  rw [hqn] at c5
  have hO1 := hO.1
  rw [hqn] at hO1
  exact ⟨j, q, cA, x.p.c, A, x.p.A, p.2, x.p.xs, b1, o1, b2, o2, b3, o3, b4, o4, hjn, e1, e2, e3, e4,
    (m3.cell (lt_of_cell c1) (fun h => h)).trans c1, (m3.cell (lt_of_cell c2) (fun h => h)).trans c2, (mm.cell (lt_of_cell c3) (fun h => h)).trans c3, (mm.cell (lt_of_cell c4) (fun h => h)).trans c4,
    c5, hs.mod m3, hO1, by omega, x, hxm, rfl⟩
theorem same_q (A B : Option Addr) (n c c' : Nat) (xs : List Nat) (w : World) (k : Nat) (ha : Sl w A n 1 (flts xs)) (hb : Sl w B n 1 (flts xs)) (hn : n ≤ 9223372036854775807) (hx : ∀ x ∈ xs, Num x) :
    Calls Try.prog 12 #[.slice A n c, .slice B n c'] (w.drewN k) fun e w' => e = .returned (.bool true) ∧ ∃ m, w' = w.drewN m :=
  (same_yes A B n c c' xs (w.drewN k) (ha.keep fun _ _ => rfl) (hb.keep fun _ _ => rfl) hn hx).mono fun _ _ ⟨he, hw⟩ => ⟨he, k, hw.symm⟩
end Go.Proofs.Ytncpdjlladlalaa
