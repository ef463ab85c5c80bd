/- The walks of the looks at lengths of a k-d tree's nodes. Conditions: none. -/
import Derived.Test.YtncpdjlladlalaaTrFl
namespace Go.Proofs.Ytncpdjlladlalaa
open Go.RowKit Lox
set_option linter.unusedVariables false

attribute [local go_sem] run_store_flt

/-- A node of a k-d tree that is written down. -/
structure KN where
  p : Pt
  pl : Int
  c : Int
  f : Int
  mn : Pt
  mx : Pt

instance : Inhabited KN := ⟨⟨default, 0, 0, 0, default, default⟩⟩

def KN.agg (x : KN) : Value := .agg #[x.p.v, .int .i64 x.pl, .int .i64 x.c, .int .i64 x.f, x.mn.v, x.mx.v]

/-- What stands at a node's place. -/
def KN.At (w : World) (b o : Nat) (x : KN) : Prop :=
  w.cell? ⟨b, o, none⟩ = some x.p.v ∧ w.cell? ⟨b, o + 1, none⟩ = some (.int .i64 x.pl) ∧ w.cell? ⟨b, o + 2, none⟩ = some (.int .i64 x.c) ∧ w.cell? ⟨b, o + 3, none⟩ = some (.int .i64 x.f) ∧ w.cell? ⟨b, o + 4, none⟩ = some x.mn.v ∧ w.cell? ⟨b, o + 5, none⟩ = some x.mx.v

theorem KN.At.mod {w w' : World} {b o : Nat} {x : KN} (h : x.At w b o) (hm : Mod (fun _ => False) w w') : x.At w' b o := by
  obtain ⟨h1, h2, h3, h4, h5, h6⟩ := h
  exact ⟨(hm.cell (lt_of_cell h1) (fun h => h)).trans h1, (hm.cell (lt_of_cell h2) (fun h => h)).trans h2, (hm.cell (lt_of_cell h3) (fun h => h)).trans h3, (hm.cell (lt_of_cell h4) (fun h => h)).trans h4, (hm.cell (lt_of_cell h5) (fun h => h)).trans h5, (hm.cell (lt_of_cell h6) (fun h => h)).trans h6⟩

/-- A node's three points are in memory. -/
def KN.Ok (w : World) (x : KN) : Prop := x.p.Ok w ∧ x.mn.Ok w ∧ x.mx.Ok w

theorem KN.Ok.mod {w w' : World} {x : KN} (h : x.Ok w) (hm : Mod (fun _ => False) w w') : x.Ok w' := ⟨⟨h.1.1.mod hm, h.1.2⟩, ⟨h.2.1.1.mod hm, h.2.1.2⟩, ⟨h.2.2.1.mod hm, h.2.2.2⟩⟩

/-- A list of nodes that came in. -/
def KNodes (w : World) (T : Option Addr) (xs : List KN) : Prop :=
  xs.length ≤ 9223372036854775807 ∧ (0 < xs.length → ∃ b o, T = some ⟨b, o, none⟩ ∧ ∀ (i : Nat) (x : KN), xs[i]? = some x → x.At w b (o + i * 6)) ∧ ∀ x ∈ xs, x.Ok w

/-- A node whose box's ends are no longer than that. -/
def KN.Small (x : KN) : Prop := x.mn.n ≤ 2147483647 ∧ x.mx.n ≤ 2147483647

set_option maxHeartbeats 1000000 in
theorem fits9_any (x : KN) (w : World) : Calls Try.prog 32 #[x.agg] w fun e w' => (∃ b, e = .returned (.bool b) ∧ (b = true → x.Small)) ∧ Mod (fun _ => False) w w' := by
  obtain ⟨⟨A, n, c, xs⟩, pl, cl, fu, ⟨A1, n1, c1, xs1⟩, ⟨A2, n2, c2, xs2⟩⟩ := x
  go_enter Try.func32, Try.ntmps32
  simp only [KN.agg, Pt.v]
  by_cases h0 : 2147483647 < n
  · go_wp2
    go_ret
    exact ⟨⟨_, rfl, fun h => by cases h⟩, (Mod.refl _ _).alloc _⟩
  · by_cases h1 : 2147483647 < n1
    · go_wp2
      go_ret
      exact ⟨⟨_, rfl, fun h => by cases h⟩, (Mod.refl _ _).alloc _⟩
    · by_cases h2 : 2147483647 < n2
      · go_wp2
        go_ret
        exact ⟨⟨_, rfl, fun h => by cases h⟩, (Mod.refl _ _).alloc _⟩
      · have hs : KN.Small ⟨⟨A, n, c, xs⟩, pl, cl, fu, ⟨A1, n1, c1, xs1⟩, ⟨A2, n2, c2, xs2⟩⟩ := ⟨by show n1 ≤ _; omega, by show n2 ≤ _; omega⟩
        have HS := Lib.hid hs
        clear hs
        go_wp2
        go_ret
        exact ⟨⟨_, rfl, fun _ => HS.out⟩, (Mod.refl _ _).alloc _⟩

theorem KNodes.mod {w w' : World} {T : Option Addr} {xs : List KN} (h : KNodes w T xs) (hm : Mod (fun _ => False) w w') : KNodes w' T xs := by
  refine ⟨h.1, fun h0 => ?_, fun x hx => (h.2.2 x hx).mod hm⟩
  obtain ⟨b, o, e, hc⟩ := h.2.1 h0
  exact ⟨b, o, e, fun i x hx => (hc i x hx).mod hm⟩

/-- A yes or no; if yes, the nodes' boxes are no longer than that. -/
def Told8 (xs : List KN) (w : World) (e : Ending) (w' : World) : Prop := (∃ b, e = .returned (.bool b) ∧ (b = true → ∀ x ∈ xs, x.Small)) ∧ Mod (fun _ => False) w w'

set_option maxHeartbeats 1000000 in
theorem fits8_any (T : Option Addr) (c m : Nat) (xs : List KN) (w : World) (hm : m = xs.length) (h : KNodes w T xs) : Calls Try.prog 13 #[.slice T m c] w (Told8 xs w) := by
  have HH : Hid (KNodes w T xs ∧ m = xs.length) := ⟨h, hm⟩
  have hml : m ≤ 9223372036854775807 := by rw [hm]; exact h.1
  clear hm h
  go_enter Try.func13, Try.ntmps13
  by_cases hn : 2147483647 < m
  · go_wp2
    go_ret
    exact ⟨⟨_, rfl, fun h => by cases h⟩, Mod.refl _ _⟩
  · go_wp2
    go_loopw [10] (fun i w' => ∃ k : Nat, k ≤ m ∧ i = .int .i64 k ∧ Hid (KNodes w' T xs ∧ Mod (fun _ => False) w w' ∧ ∀ x ∈ xs.take k, x.Small)) (fun i _ => m - (intOf i).toNat)
    case atStart => exact ⟨0, Nat.zero_le _, rfl, HH.out.1, Mod.refl _ _, by simp⟩
    case round =>
      obtain ⟨k, hk, rfl, H1⟩ := hrel
      by_cases hlt : k < m
      · obtain ⟨b, o, e, hc⟩ := H1.out.1.2.1 (by rw [← HH.out.2]; omega)
        have hk2 : k < xs.length := by rw [← HH.out.2]; exact hlt
        obtain ⟨x, ex⟩ : ∃ x, x = xs[k] := ⟨_, rfl⟩
        have hx := hc k _ (List.getElem?_eq_getElem hk2)
        rw [← ex] at hx
        have HTK : Hid (xs.take (k + 1) = xs.take k ++ [x]) := by show _ = _; rw [List.take_succ_eq_append_getElem hk2, ex]
        clear ex hc hk2
        obtain ⟨⟨A, n, c', ys⟩, pl, cl, fu, ⟨A1, n1, c1, ys1⟩, ⟨A2, n2, c2, ys2⟩⟩ := x
        obtain ⟨d0, d1, d2, d3, d4, d5⟩ := hx
        simp only [Pt.v] at d0 d1 d2 d3 d4 d5
        subst e
        go_wp2_with (go_at_call 32; refine (fits9_any ⟨⟨A, n, c', ys⟩, pl, cl, fu, ⟨A1, n1, c1, ys1⟩, ⟨A2, n2, c2, ys2⟩⟩ _).mono ?_; rintro _ w2 ⟨⟨g, rfl, hg⟩, hM⟩; have HG := Lib.hid hg; clear hg)
        · go_ret
          exact ⟨⟨_, rfl, fun h => by cases h⟩, H1.out.2.1.trans (((Mod.refl _ _).alloc _).trans hM)⟩
        · have hgt : g = true := by first | rfl | assumption | (have h : (!g) = false := (by assumption); simpa using h)
          go_roundw
          case rel =>
            refine ⟨k + 1, by omega, by go_num, H1.out.1.mod (((Mod.refl _ _).alloc _).trans hM), H1.out.2.1.trans (((Mod.refl _ _).alloc _).trans hM), ?_⟩
            rw [HTK.out]
            intro z hz
            rcases List.mem_append.1 hz with h | h
            · exact H1.out.2.2 z h
            · rw [List.mem_singleton.1 h]; exact HG.out hgt
          case measure => simp [intOf]; omega
      · obtain rfl : k = m := by omega
        go_wp2_with fail
        go_ret
        refine ⟨⟨_, rfl, fun _ => ?_⟩, H1.out.2.1⟩
        have := H1.out.2.2
        rw [List.take_of_length_le (by rw [HH.out.2]; exact Nat.le_refl _)] at this
        exact this

theorem blk_new_at' {w : World} {b : Nat} (h : w.heap.size = b) (c : Array Value) (T : TypeId) {xs : List Value} (hx : c.toList = xs) : Blk (w.alloc (.cells c T)) b T xs := by
  subst h hx
  exact Blk.new' w c T

def KC (xs : List KN) (k : Nat) : Int := ((xs[k]?).map KN.c).getD 0
def KF (xs : List KN) (k : Nat) : Int := ((xs[k]?).map KN.f).getD 0

end Go.Proofs.Ytncpdjlladlalaa
