/- The walks of the copies: floats, ints; SamePoint. Conditions: rows of at most 2^40 numbers. -/
import Derived.Test.YtmeooadgdagiiaaTbGrid
import Derived.Test.YtmeooadgdagiiaaTbPick
import Derived.Maps.AppendAt
namespace Go.Proofs.Ytmeooadgdagiiaa
open Go.RowKit Lox
set_option linter.unusedVariables false
attribute [local go_sem] run_store_flt

theorem info_f64 : (Try.prog.info? 27).map (fun i => (i.zero, i.size, i.bytes)) = some (some (.float .f64 0), 1, 8) := by kernel_rfl
theorem info_int : (Try.prog.info? 3).map (fun i => (i.zero, i.size, i.bytes)) = some (some (.int .i64 0), 1, 8) := by kernel_rfl

/-- A copy of a point, in memory of its own. -/
def NewPt (n : Nat) (xs : List Nat) (w : World) (e : Ending) (w' : World) : Prop :=
  ∃ A' c', e = .returned (.slice A' n c') ∧ Sl w' A' n 1 (flts xs) ∧ Mod (fun _ => False) w w' ∧ ∀ b o, A' = some ⟨b, o, none⟩ → w.heap.size ≤ b

theorem mod_of_grown {w w' : World} (h : w.grownBy w' none) : Mod (fun _ => False) w w' := ⟨h.os, h.tape, h.output, h.size, fun k hk _ => h.block k hk (by simp)⟩

set_option maxHeartbeats 1000000 in
theorem floats_any (A : Option Addr) (n c : Nat) (xs : List Nat) (w : World) (h : Sl w A n 1 (flts xs)) (hn : n ≤ 1099511627776) (h0 : 0 < n) :
    Calls Try.prog 33 #[.slice A n c] w (NewPt n xs w) := by
  obtain ⟨i0, hi0, hz0, hz1, hz2⟩ := info_parts info_f64
  have HI := Lib.hid (And.intro hi0 (And.intro hz0 (And.intro hz1 hz2)))
  clear hi0 hz0 hz1 hz2
  have hlx : xs.length = n := by have := h.1; simpa [flts] using this
  obtain ⟨b, o, e, hc⟩ := h.2 h0
  subst e
  have H := Lib.hid h
  have HC := Lib.hid hc
  have HLX := Lib.hid hlx
  clear h hc hlx
  go_enter Try.func33, Try.ntmps33
  go_wp2_with (at_builtin; refine wpList_append_lies _ rfl _ _ _ rfl w.heap.size 27 i0 (.float .f64 0) 1 8 Try.underlying26 HI.out.1 HI.out.2.1 HI.out.2.2.1 HI.out.2.2.2 rfl (by decide) (.slice none 0 0) 0 [] rfl (World.ownsRow_nil _ _ _ _) ⟨b, o, none⟩ n c (flts xs) rfl (by rw [H.out.1]) (by intro j u hu; rw [addr_lit]; exact HC.out j u hu) (by intro u hu; obtain ⟨z, _, rfl⟩ := List.mem_map.1 hu; rfl) h0 (by unfold maxLen; omega) (by omega) (Nat.le_refl _) w.heap.size rfl ?_; intro g cap w1 hown hgrow hat hlt)
  go_ret
  have hg : g = w.heap.size := by
    rcases hat with hat | hat
    · cases hat
    · exact hat
  simp only [Nat.zero_add, List.nil_append] at hown ⊢
  refine ⟨_, _, rfl, ⟨H.out.1, fun _ => ⟨g, 0, rfl, fun j u hu => ?_⟩⟩, mod_of_grown hgrow, fun b' o' e' => ?_⟩
  · have := hown.cells (g := g) rfl j u hu
    rw [addr_lit] at this
    exact this
  · cases e'
    omega

/-- A copy of a row of whole numbers, in memory of its own. -/
def NewInts (n : Nat) (xs : List Int) (w : World) (e : Ending) (w' : World) : Prop :=
  ∃ A' c', e = .returned (.slice A' n c') ∧ Sl w' A' n 1 (ints xs) ∧ Mod (fun _ => False) w w' ∧ n ≤ c' ∧ c' ≤ 9223372036854775807 ∧ ∀ b o, A' = some ⟨b, o, none⟩ → w.heap.size ≤ b

theorem own_newInts {w w1 : World} {v : Value} {n : Nat} {xs : List Int} (hown : w1.ownsRow w.heap.size 3 1 v n (ints xs)) (hm : Mod (fun _ => False) w w1) : NewInts n xs w (.returned v) w1 := by
  rcases hown.2 with ⟨rfl, h0⟩ | ⟨g, cap, cur, e1, hb, hg, hc, hcm, hsz, ht⟩
  · subst h0
    exact ⟨none, 0, rfl, ⟨by have := hown.1; simpa using this, fun h => by omega⟩, hm, Nat.le_refl _, by omega, fun b o e => by cases e⟩
  · subst e1
    refine ⟨_, _, rfl, ⟨hown.1, fun _ => ⟨g, 0, rfl, fun j u hu => ?_⟩⟩, hm, hc, hcm, fun b' o' e' => ?_⟩
    · have := hown.cells (g := g) rfl j u hu
      rw [addr_lit] at this
      exact this
    · cases e'
      exact hb

set_option maxHeartbeats 1000000 in
theorem ints_any (A : Option Addr) (n c : Nat) (xs : List Int) (w : World) (h : Sl w A n 1 (ints xs)) (hn : n ≤ 1099511627776) (hA : A = none → c = 0) :
    Calls Try.prog 29 #[.slice A n c] w (NewInts n xs w) := by
  obtain ⟨i0, hi0, hz0, hz1, hz2⟩ := info_parts info_int
  have HI := Lib.hid (And.intro hi0 (And.intro hz0 (And.intro hz1 hz2)))
  clear hi0 hz0 hz1 hz2
  have H := Lib.hid h
  clear h
  cases A with
  | none =>
    obtain rfl : n = 0 := by
      rcases Nat.eq_zero_or_pos n with h0 | h0
      · exact h0
      · obtain ⟨_, _, h, _⟩ := H.out.2 h0
        cases h
    obtain rfl : c = 0 := hA rfl
    go_enter Try.func29, Try.ntmps29
    go_wp2
    go_ret
    exact ⟨none, 0, rfl, H.out, Mod.refl _ _, Nat.le_refl _, by omega, fun b o e => by cases e⟩
  | some ad =>
    clear hA
    go_enter Try.func29, Try.ntmps29
    go_wp2_with (at_builtin; refine wpList_append_own _ rfl _ _ _ rfl w.heap.size 3 i0 (.int .i64 0) 1 8 Try.underlying23 HI.out.1 HI.out.2.1 HI.out.2.2.1 HI.out.2.2.2 rfl (by decide) (.slice none 0 0) 0 [] rfl (World.ownsRow_nil _ _ _ _) ad n c (ints xs) rfl (by rw [H.out.1]) (by intro j u hu; obtain ⟨b, o, e, hc⟩ := H.out.2 (by have := H.out.1; have := (List.getElem?_eq_some_iff.1 hu).1; omega); cases e; rw [addr_lit]; exact hc j u hu) (by intro u hu; obtain ⟨z, _, rfl⟩ := List.mem_map.1 hu; rfl) (by unfold maxLen; omega) (by omega) (Nat.le_refl _) ?_; intro v w1 hown hgrow hat)
    go_ret
    simp only [Nat.zero_add, List.nil_append] at hown
    exact own_newInts hown (mod_of_grown hgrow)
end Go.Proofs.Ytmeooadgdagiiaa
