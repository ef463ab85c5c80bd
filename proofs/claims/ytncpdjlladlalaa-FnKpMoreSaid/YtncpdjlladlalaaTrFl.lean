/- The walks of the copy of a point, and of the looks at lengths. Conditions: a point of at most 2^40 numbers. -/
import Derived.Test.YtncpdjlladlalaaTrGrid
namespace Go.Proofs.Ytncpdjlladlalaa
open Go.RowKit Lox
set_option linter.unusedVariables false

attribute [local go_sem] run_store_flt

theorem info_f64 : (Try.prog.info? 28).map (fun i => (i.zero, i.size, i.bytes)) = some (some (.float .f64 0), 1, 8) := by kernel_rfl

/-- A copy of a point, in memory of its own. -/
def NewPt (n : Nat) (xs : List Nat) (w : World) (e : Ending) (w' : World) : Prop :=
  ∃ A' c', e = .returned (.slice A' n c') ∧ Sl w' A' n 1 (flts xs) ∧ Mod (fun _ => False) w w' ∧ ∀ b o, A' = some ⟨b, o, none⟩ → w.heap.size ≤ b

theorem mod_of_grown {w w' : World} (h : w.grownBy w' none) : Mod (fun _ => False) w w' := ⟨h.os, h.tape, h.output, h.size, fun k hk _ => h.block k hk (by simp)⟩

set_option maxHeartbeats 1000000 in
theorem floats_any (A : Option Addr) (n c : Nat) (xs : List Nat) (w : World) (h : Sl w A n 1 (flts xs)) (hn : n ≤ 1099511627776) (h0 : 0 < n) :
    Calls Try.prog 31 #[.slice A n c] w (NewPt n xs w) := by
  obtain ⟨i0, hi0, hz0, hz1, hz2⟩ := info_parts info_f64
  have HI := Lib.hid (And.intro hi0 (And.intro hz0 (And.intro hz1 hz2)))
  clear hi0 hz0 hz1 hz2
  have hlx : xs.length = n := by have := h.1; simpa [flts] using this
  obtain ⟨b, o, e, hc⟩ := h.2 h0
  subst e
  have H := Lib.hid h
  have HC := Lib.hid hc
  have HLX := Lib.hid hlx
  clear h hc hlx
  go_enter Try.func31, Try.ntmps31
  go_wp2_with (at_builtin; refine wpList_append_lies _ rfl _ _ _ rfl w.heap.size 28 i0 (.float .f64 0) 1 8 Try.underlying27 HI.out.1 HI.out.2.1 HI.out.2.2.1 HI.out.2.2.2 rfl (by decide) (.slice none 0 0) 0 [] rfl (World.ownsRow_nil _ _ _ _) ⟨b, o, none⟩ n c (flts xs) rfl (by rw [H.out.1]) (by intro j u hu; rw [addr_lit]; exact HC.out j u hu) (by intro u hu; obtain ⟨z, _, rfl⟩ := List.mem_map.1 hu; rfl) h0 (by unfold maxLen; omega) (by omega) (Nat.le_refl _) w.heap.size rfl ?_; intro g cap w1 hown hgrow hat hlt)
  go_ret
  have hg : g = w.heap.size := by
    rcases hat with hat | hat
    · cases hat
    · exact hat
  simp only [Nat.zero_add, List.nil_append] at hown ⊢
  refine ⟨_, _, rfl, ⟨H.out.1, fun _ => ⟨g, 0, rfl, fun j u hu => ?_⟩⟩, mod_of_grown hgrow, fun b' o' e' => ?_⟩
  · have := hown.cells (g := g) rfl j u hu
    rw [addr_lit] at this
    exact this
  · cases e'
    omega

/-- A node of a vantage-point tree that is written down. -/
structure VN where
  p : Pt
  r : Nat
  c : Int
  f : Int

instance : Inhabited VN := ⟨⟨default, 0, 0, 0⟩⟩

def VN.agg (x : VN) : Value := .agg #[x.p.v, .float .f64 x.r, .int .i64 x.c, .int .i64 x.f]

/-- What stands at a node's place. -/
def VN.At (w : World) (b o : Nat) (x : VN) : Prop :=
  w.cell? ⟨b, o, none⟩ = some x.p.v ∧ w.cell? ⟨b, o + 1, none⟩ = some (.float .f64 x.r) ∧ w.cell? ⟨b, o + 2, none⟩ = some (.int .i64 x.c) ∧ w.cell? ⟨b, o + 3, none⟩ = some (.int .i64 x.f)

/-- A list of nodes that came in. -/
def Nodes (w : World) (T : Option Addr) (xs : List VN) : Prop :=
  xs.length ≤ 9223372036854775807 ∧ (0 < xs.length → ∃ b o, T = some ⟨b, o, none⟩ ∧ ∀ (i : Nat) (x : VN), xs[i]? = some x → x.At w b (o + i * 4)) ∧ ∀ x ∈ xs, x.p.Ok w

/-- A yes or no, and nothing else is done. -/
def Told (w : World) (e : Ending) (w' : World) : Prop := (∃ b, e = .returned (.bool b)) ∧ Mod (fun _ => False) w w'

set_option maxHeartbeats 1000000 in
theorem fits11_any (x : VN) (w : World) : Calls Try.prog 23 #[x.agg] w (Told w) := by
  obtain ⟨⟨A, n, c, xs⟩, r, cl, fu⟩ := x
  go_enter Try.func23, Try.ntmps23
  simp only [VN.agg, Pt.v]
  by_cases hn : 2147483647 < n
  · go_wp2
    go_ret
    exact ⟨⟨_, rfl⟩, (Mod.refl _ _).alloc _⟩
  · go_wp2
    go_ret
    exact ⟨⟨_, rfl⟩, (Mod.refl _ _).alloc _⟩

theorem Nodes.mod {w w' : World} {T : Option Addr} {xs : List VN} (h : Nodes w T xs) (hm : Mod (fun _ => False) w w') : Nodes w' T xs := by
  refine ⟨h.1, fun h0 => ?_, fun x hx => ⟨(h.2.2 x hx).1.mod hm, (h.2.2 x hx).2⟩⟩
  obtain ⟨b, o, e, hc⟩ := h.2.1 h0
  refine ⟨b, o, e, fun i x hx => ?_⟩
  obtain ⟨h1, h2, h3, h4⟩ := hc i x hx
  exact ⟨(hm.cell (lt_of_cell h1) (fun h => h)).trans h1, (hm.cell (lt_of_cell h2) (fun h => h)).trans h2, (hm.cell (lt_of_cell h3) (fun h => h)).trans h3, (hm.cell (lt_of_cell h4) (fun h => h)).trans h4⟩

set_option maxHeartbeats 1000000 in
theorem fits10_any (T : Option Addr) (c : Nat) (xs : List VN) (w : World) (h : Nodes w T xs) : Calls Try.prog 8 #[.slice T xs.length c] w (Told w) := by
  obtain ⟨m, hm⟩ : ∃ m, m = xs.length := ⟨_, rfl⟩
  obtain ⟨W, eW⟩ : ∃ W : World, W = w := ⟨_, rfl⟩
  have HH : Hid (Nodes w T xs ∧ m = xs.length) := ⟨h, hm⟩
  have HM : Hid (Mod (fun _ => False) W w) := by show Mod _ _ _; subst eW; exact Mod.refl _ _
  rw [← hm, ← eW]
  rw [eW]
  have hml : m ≤ 9223372036854775807 := by rw [hm]; exact h.1
  clear hm h
  go_enter Try.func8, Try.ntmps8
  by_cases hn : 2147483647 < m
  · go_wp2
    go_ret
    exact ⟨⟨_, rfl⟩, Mod.refl _ _⟩
  · go_wp2
    go_loopw [10] (fun i w' => ∃ k : Nat, k ≤ m ∧ i = .int .i64 k ∧ Hid (Nodes w' T xs ∧ Mod (fun _ => False) w w')) (fun i _ => m - (intOf i).toNat)
    case atStart => exact ⟨0, Nat.zero_le _, rfl, HH.out.1, Mod.refl _ _⟩
    case round =>
      obtain ⟨k, hk, rfl, H1⟩ := hrel
      by_cases hlt : k < m
      · obtain ⟨b, o, e, hc⟩ := H1.out.1.2.1 (by rw [← HH.out.2]; omega)
        have hk2 : k < xs.length := by rw [← HH.out.2]; exact hlt
        obtain ⟨x, ex⟩ : ∃ x, x = xs[k] := ⟨_, rfl⟩
        have hx := hc k _ (List.getElem?_eq_getElem hk2)
        rw [← ex] at hx
        clear ex hc hk2
        obtain ⟨⟨A, n, c', ys⟩, r, cl, fu⟩ := x
        obtain ⟨c0, c1, c2, c3⟩ := hx
        simp only [Pt.v] at c0 c1 c2 c3
        subst e
        go_wp2_with (go_at_call 23; refine (fits11_any ⟨⟨A, n, c', ys⟩, r, cl, fu⟩ _).mono ?_; rintro _ w2 ⟨⟨g, rfl⟩, hM⟩)
        · go_ret
          exact ⟨⟨_, rfl⟩, H1.out.2.trans (((Mod.refl _ _).alloc _).trans hM)⟩
        · go_roundw
          case rel => exact ⟨k + 1, by omega, by go_num, H1.out.1.mod (((Mod.refl _ _).alloc _).trans hM), H1.out.2.trans (((Mod.refl _ _).alloc _).trans hM)⟩
          case measure => simp [intOf]; omega
      · obtain rfl : k = m := by omega
        go_wp2_with fail
        go_ret
        exact ⟨⟨_, rfl⟩, H1.out.2⟩

def VC (xs : List VN) (k : Nat) : Int := ((xs[k]?).map VN.c).getD 0
def VF (xs : List VN) (k : Nat) : Int := ((xs[k]?).map VN.f).getD 0

end Go.Proofs.Ytncpdjlladlalaa
