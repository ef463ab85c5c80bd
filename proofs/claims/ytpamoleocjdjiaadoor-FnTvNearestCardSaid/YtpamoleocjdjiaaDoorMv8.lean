/- Steps of a proof, one behind another: The walks of Trunc, Grid, SamePoint, floats. The walks of the copy of a point, and of the looks at lengths. Conditions: a point of at most 2^40 numbers. A linear congruential generator of full period comes to every state, in plain Lean. The walks of the generator of two seeds. The walk of the generator's step. The walk of a number drawn below another one. Conditions: as each theorem says. -/
import Derived.Test.YtpamoleocjdjiaaDoorMv7
import Derived.Test.YtpamoleocjdjiaaDoorRows
import Derived.Shelf.Bits.Mul64
import Derived.Laws.Bits64
import Derived.Laws.Bits64b
import Derived.Laws.Externs
import Derived.Deep.RegionHeld3
import Derived.Deep.DrawnRows
import Derived.Deep.DeepCutAuto
import Derived.Deep.QuietTactic
import Derived.BigQuiet
import Derived.IntWalk

namespace Go.Proofs.YtpamoleocjdjiaaDoor.W
open Go.RowKit Lox
set_option linter.unusedVariables false

theorem run_trunc (x : Nat) (hx : Num x) : ∃ y, ∀ w : World, (callFunc 53 #[.float .f64 x]).run Tryd.prog w = .ok (.value (.float .f64 y)) w := by
  have key : ∀ d, FloatKind.f64.decode x = d → d.isNaN = false → (Extern.MathFloor.toIntegral "math.archTrunc" .zero #[.float .f64 x]) = pure (.float .f64 (FloatKind.f64.encode (d.integral .zero))) := by
    intro d hd hn
    delta Extern.MathFloor.toIntegral
    conv => lhs; whnf
    rw [hd]
    cases d with
    | nan s t => simp [Ieee.Datum.isNaN] at hn
    | number s m i => rfl
    | infinity s => rfl
  refine ⟨FloatKind.f64.encode ((FloatKind.f64.decode x).integral .zero), fun w => ?_⟩
  rw [run_callFunc_extern Tryd.func53 (by kernel_rfl) (by kernel_rfl) (by kernel_rfl) (e := Extern.MathFloor.toIntegral "math.archTrunc" .zero) (by kernel_rfl), key _ rfl hx]
  rfl

set_option maxHeartbeats 400000 in
theorem trunc_any (x : Nat) (w : World) (hx : Num x) :
    Calls Tryd.prog 42 #[.float .f64 x] w fun e w' => (∃ y, e = .returned (.float .f64 y)) ∧ w = w' := by
  obtain ⟨y, hy⟩ := run_trunc x hx
  go_enter Tryd.func42, Tryd.ntmps42
  go_wp2
  go_ret
  exact ⟨⟨y, rfl⟩, rfl⟩

set_option maxHeartbeats 1000000 in
theorem same_yes (A B : Option Addr) (n c c' : Nat) (xs : List Nat) (w : World) (ha : Sl w A n 1 (flts xs)) (hb : Sl w B n 1 (flts xs)) (hn : n ≤ 9223372036854775807) (hx : ∀ x ∈ xs, Num x) :
    Calls Tryd.prog 46 #[.slice A n c, .slice B n c'] w fun e w' => e = .returned (.bool true) ∧ w = w' := by
  have hl : xs.length = n := by have := ha.1; simpa [flts] using this
  go_enter Tryd.func46, Tryd.ntmps46
  go_wp2
  go_loop [14] (fun i => ∃ k : Nat, k ≤ n ∧ i = .int .i64 k) (fun i => n - (intOf i).toNat)
  case atStart => exact ⟨0, Nat.zero_le _, rfl⟩
  case round =>
    obtain ⟨k, hk, rfl⟩ := hrel
    by_cases hlt : k < n
    · obtain ⟨b, o, v, e1, e2, c1⟩ := ha.at1 hlt
      obtain ⟨b', o', v', e3, e4, c2⟩ := hb.at1 hlt
      rw [e2] at e4
      cases e4
      have hk2 : k < xs.length := by omega
      rw [flts_getD hk2] at e2
      cases e2
      have hxx : FloatKind.f64.format.order (xs.getD k 0) (xs.getD k 0) = some .eq := (hx _ (by simp [hk2])).self
      obtain ⟨x, ex⟩ : ∃ x, x = xs.getD k 0 := ⟨_, rfl⟩
      rw [← ex] at c1 c2 hxx
      clear ex hk2 ha hb hx
      subst e1 e3
      go_wp2
      go_round
      case rel => exact ⟨k + 1, by omega, by go_num⟩
      case measure => simp [intOf]; omega
    · obtain rfl : k = n := by omega
      go_wp2
      go_ret
      exact ⟨rfl, rfl⟩

/-- What Grid tells of points: where it says yes, each is of the size asked for, and each of its numbers is one. -/
def GridTold (pts : List Pt) (dims : Int) (w : World) (e : Ending) (w' : World) : Prop :=
  w = w' ∧ ∃ b, e = .returned (.bool b) ∧ (b = true → (∀ p ∈ pts, (p.n : Int) = dims ∧ ∀ x ∈ p.xs, Num x) ∧ 0 < dims)

theorem grid_no {pts : List Pt} {dims : Int} {w : World} : GridTold pts dims w (.returned (.bool false)) w := ⟨rfl, false, rfl, fun h => by cases h⟩

set_option maxHeartbeats 2000000 in
theorem grid_any (O : Option Addr) (m c : Nat) (pts : List Pt) (dims : Int) (most : Nat) (w : World) (ho : Sl w O m 1 (pts.map Pt.v)) (hm : m ≤ 9223372036854775807) (hp : ∀ p ∈ pts, p.Ok w) :
    Calls Tryd.prog 21 #[.slice O m c, .int .i64 dims, .float .f64 most] w (GridTold pts dims w) := by
  have hl : pts.length = m := by have := ho.1; simpa using this
  have hneg : ∀ (x : Nat) (w : World), (Op.unary .neg (.float .f64 x)).run Tryd.prog w = .ok (.float .f64 (Op.negFloat .f64 x)) w := fun _ _ => rfl
  go_enter Tryd.func21, Tryd.ntmps21
  go_wp2
  go_loop [13] (fun i => ∃ k : Nat, k ≤ m ∧ i = .int .i64 k ∧ ∀ p ∈ pts.take k, (p.n : Int) = dims ∧ ∀ x ∈ p.xs, Num x) (fun i => m - (intOf i).toNat)
  case atStart => exact ⟨0, Nat.zero_le _, rfl, by simp⟩
  case round =>
    obtain ⟨k, hk, rfl, hdone⟩ := hrel
    have HD := Lib.hid hdone
    clear hdone
    by_cases hlt : k < m
    · obtain ⟨b, o, v, e1, e2, c1⟩ := ho.at1 hlt
      have hk2 : k < pts.length := by omega
      have e3 : (pts.map Pt.v)[k]? = some (pts[k]).v := by simp [hk2]
      rw [e3] at e2
      cases e2
      have hpk : (pts[k]).Ok w := hp _ (List.getElem_mem hk2)
      obtain ⟨p, ep⟩ : ∃ p, p = pts[k] := ⟨_, rfl⟩
      rw [← ep] at c1 hpk e3
      have HTK : Hid (pts.take (k + 1) = pts.take k ++ [p]) := by show _ = _; rw [List.take_succ_eq_append_getElem hk2, ep]
      clear ep e3 hk2
      obtain ⟨A, q, c', xs⟩ := p
      have hpn : q ≤ 9223372036854775807 := hpk.2
      have hlx : xs.length = q := hpk.len
      have HK : Hid (Pt.Ok w ⟨A, q, c', xs⟩) := hpk
      have HLX := Lib.hid hlx
      replace c1 : w.cell? ⟨b, o + k, none⟩ = some (.slice A q c') := c1
      clear hpk hlx
      subst e1
      by_cases hdim : (q : Int) = dims
      · subst hdim
        go_wp2
        go_loop [23] (fun i => ∃ j : Nat, j ≤ q ∧ i = .int .i64 j ∧ ∀ x ∈ xs.take j, Num x) (fun i => q - (intOf i).toNat)
        case atStart => exact ⟨0, Nat.zero_le _, rfl, by simp⟩
        case round =>
          obtain ⟨j, hj, rfl, hdj⟩ := hrel
          have HDJ := Lib.hid hdj
          clear hdj
          by_cases hlj : j < q
          · obtain ⟨b2, o2, e4, c2⟩ := HK.out.cell hlj
            replace e4 : A = some ⟨b2, o2, none⟩ := e4
            replace c2 : w.cell? ⟨b2, o2 + j, none⟩ = some (.float .f64 (xs.getD j 0)) := c2
            have HTJ : Hid (xs.take (j + 1) = xs.take j ++ [xs.getD j 0]) := by
              show _ = _
              have : j < xs.length := by rw [HLX.out]; exact hlj
              rw [List.take_succ_eq_append_getElem this]; simp [this]
            obtain ⟨x, ex⟩ : ∃ x, x = xs.getD j 0 := ⟨_, rfl⟩
            rw [← ex] at c2 HTJ
            clear ex
            subst e4
            by_cases hnx : Num x
            · have HN := Lib.hid hnx
              clear hnx
              obtain ⟨g1, hg1⟩ : ∃ g1 : Bool, (FloatKind.f64.format.order x (Op.negFloat .f64 most) == some .gt || FloatKind.f64.format.order x (Op.negFloat .f64 most) == some .eq) = g1 := ⟨_, rfl⟩
              obtain ⟨g2, hg2⟩ : ∃ g2 : Bool, (FloatKind.f64.format.order x most == some .lt || FloatKind.f64.format.order x most == some .eq) = g2 := ⟨_, rfl⟩
              cases g1 <;> cases g2
              all_goals go_wp2_with (go_at_call 42; refine (trunc_any x _ HN.out).mono ?_; rintro _ _ ⟨⟨y, rfl⟩, rfl⟩)
              all_goals first
                | (go_ret; exact grid_no)
                | (go_round
                   case rel =>
                     refine ⟨j + 1, by omega, by go_num, ?_⟩
                     rw [HTJ.out]
                     intro z hz
                     rcases List.mem_append.1 hz with h | h
                     · exact HDJ.out z h
                     · rw [List.mem_singleton.1 h]; exact HN.out
                   case measure => simp [intOf]; omega)
            · have hno : ∀ y, FloatKind.f64.format.order x y = none := fun y => by
                cases hh : FloatKind.f64.format.order x y with
                | none => rfl
                | some z => exact absurd (Num.of_order hh) hnx
              go_wp2
              go_ret
              exact grid_no
          · obtain rfl : j = q := by omega
            go_wp2_with fail
            go_round
            case rel =>
              refine ⟨k + 1, by omega, by go_num, ?_⟩
              rw [HTK.out]
              intro z hz
              rcases List.mem_append.1 hz with h | h
              · exact HD.out z h
              · rw [List.mem_singleton.1 h]
                refine ⟨rfl, ?_⟩
                have := HDJ.out
                rw [List.take_of_length_le (by rw [HLX.out]; exact Nat.le_refl _)] at this
                exact this
            case measure => simp [intOf]; omega
      · have hne : ((q : Int) != dims) = true := by simp [hdim]
        have hne2 : ((q : Int) == dims) = false := by simp [hdim]
        go_wp2
        go_ret
        exact grid_no
    · obtain rfl : k = m := by omega
      by_cases h0 : 0 < dims
      · go_wp2
        go_ret
        refine ⟨rfl, true, rfl, fun _ => ⟨?_, h0⟩⟩
        have := HD.out
        rw [List.take_of_length_le (by omega)] at this
        exact this
      · have hd0 : decide (0 < dims) = false := by simp [h0]
        go_wp2
        go_ret
        exact grid_no
end Go.Proofs.YtpamoleocjdjiaaDoor.W

namespace Go.Proofs.YtpamoleocjdjiaaDoor.W
open Go.RowKit Lox
set_option linter.unusedVariables false

attribute [local go_sem] run_store_flt

theorem info_f64 : (Tryd.prog.info? 27).map (fun i => (i.zero, i.size, i.bytes)) = some (some (.float .f64 0), 1, 8) := by kernel_rfl

/-- A copy of a point, in memory of its own. -/
def NewPt (n : Nat) (xs : List Nat) (w : World) (e : Ending) (w' : World) : Prop :=
  ∃ A' c', e = .returned (.slice A' n c') ∧ Sl w' A' n 1 (flts xs) ∧ Mod (fun _ => False) w w' ∧ ∀ b o, A' = some ⟨b, o, none⟩ → w.heap.size ≤ b

theorem mod_of_grown {w w' : World} (h : w.grownBy w' none) : Mod (fun _ => False) w w' := ⟨h.os, h.tape, h.output, h.size, fun k hk _ => h.block k hk (by simp)⟩

set_option maxHeartbeats 1000000 in
theorem floats_any (A : Option Addr) (n c : Nat) (xs : List Nat) (w : World) (h : Sl w A n 1 (flts xs)) (hn : n ≤ 1099511627776) (h0 : 0 < n) :
    Calls Tryd.prog 37 #[.slice A n c] w (NewPt n xs w) := by
  obtain ⟨i0, hi0, hz0, hz1, hz2⟩ := info_parts info_f64
  have HI := Lib.hid (And.intro hi0 (And.intro hz0 (And.intro hz1 hz2)))
  clear hi0 hz0 hz1 hz2
  have hlx : xs.length = n := by have := h.1; simpa [flts] using this
  obtain ⟨b, o, e, hc⟩ := h.2 h0
  subst e
  have H := Lib.hid h
  have HC := Lib.hid hc
  have HLX := Lib.hid hlx
  clear h hc hlx
  go_enter Tryd.func37, Tryd.ntmps37
  go_wp2_with (at_builtin; refine wpList_append_lies _ rfl _ _ _ rfl w.heap.size 27 i0 (.float .f64 0) 1 8 Tryd.underlying26 HI.out.1 HI.out.2.1 HI.out.2.2.1 HI.out.2.2.2 rfl (by decide) (.slice none 0 0) 0 [] rfl (World.ownsRow_nil _ _ _ _) ⟨b, o, none⟩ n c (flts xs) rfl (by rw [H.out.1]) (by intro j u hu; rw [addr_lit]; exact HC.out j u hu) (by intro u hu; obtain ⟨z, _, rfl⟩ := List.mem_map.1 hu; rfl) h0 (by unfold maxLen; omega) (by omega) (Nat.le_refl _) w.heap.size rfl ?_; intro g cap w1 hown hgrow hat hlt)
  go_ret
  have hg : g = w.heap.size := by
    rcases hat with hat | hat
    · cases hat
    · exact hat
  simp only [Nat.zero_add, List.nil_append] at hown ⊢
  refine ⟨_, _, rfl, ⟨H.out.1, fun _ => ⟨g, 0, rfl, fun j u hu => ?_⟩⟩, mod_of_grown hgrow, fun b' o' e' => ?_⟩
  · have := hown.cells (g := g) rfl j u hu
    rw [addr_lit] at this
    exact this
  · cases e'
    omega

/-- A node of a vantage-point tree that is written down. -/
structure VN where
  p : Pt
  r : Nat
  c : Int
  f : Int

instance : Inhabited VN := ⟨⟨default, 0, 0, 0⟩⟩

def VN.agg (x : VN) : Value := .agg #[x.p.v, .float .f64 x.r, .int .i64 x.c, .int .i64 x.f]

/-- What stands at a node's place. -/
def VN.At (w : World) (b o : Nat) (x : VN) : Prop :=
  w.cell? ⟨b, o, none⟩ = some x.p.v ∧ w.cell? ⟨b, o + 1, none⟩ = some (.float .f64 x.r) ∧ w.cell? ⟨b, o + 2, none⟩ = some (.int .i64 x.c) ∧ w.cell? ⟨b, o + 3, none⟩ = some (.int .i64 x.f)

/-- A list of nodes that came in. -/
def Nodes (w : World) (T : Option Addr) (xs : List VN) : Prop :=
  xs.length ≤ 9223372036854775807 ∧ (0 < xs.length → ∃ b o, T = some ⟨b, o, none⟩ ∧ ∀ (i : Nat) (x : VN), xs[i]? = some x → x.At w b (o + i * 4)) ∧ ∀ x ∈ xs, x.p.Ok w

/-- A yes or no, and nothing else is done. -/
def Told (w : World) (e : Ending) (w' : World) : Prop := (∃ b, e = .returned (.bool b)) ∧ Mod (fun _ => False) w w'

theorem Nodes.mod {w w' : World} {T : Option Addr} {xs : List VN} (h : Nodes w T xs) (hm : Mod (fun _ => False) w w') : Nodes w' T xs := by
  refine ⟨h.1, fun h0 => ?_, fun x hx => ⟨(h.2.2 x hx).1.mod hm, (h.2.2 x hx).2⟩⟩
  obtain ⟨b, o, e, hc⟩ := h.2.1 h0
  refine ⟨b, o, e, fun i x hx => ?_⟩
  obtain ⟨h1, h2, h3, h4⟩ := hc i x hx
  exact ⟨(hm.cell (lt_of_cell h1) (fun h => h)).trans h1, (hm.cell (lt_of_cell h2) (fun h => h)).trans h2, (hm.cell (lt_of_cell h3) (fun h => h)).trans h3, (hm.cell (lt_of_cell h4) (fun h => h)).trans h4⟩

def VC (xs : List VN) (k : Nat) : Int := ((xs[k]?).map VN.c).getD 0
def VF (xs : List VN) (k : Nat) : Int := ((xs[k]?).map VN.f).getD 0

end Go.Proofs.YtpamoleocjdjiaaDoor.W

namespace Lox.Rn
set_option linter.unusedVariables false

/-- k steps, in whole numbers. -/
def itI (a c : Int) : Nat → Int → Int
  | 0, s => s
  | k + 1, s => itI a c k (a * s + c)

def geo (a : Int) : Nat → Int
  | 0 => 0
  | k + 1 => 1 + a * geo a k

theorem itI_eq (a c : Int) : ∀ (k : Nat) (s : Int), itI a c k s = s + geo a k * ((a - 1) * s + c) := by
  intro k
  induction k with
  | zero => intro s; simp [itI, geo]
  | succ k ih =>
    intro s
    rw [itI, ih, geo]
    grind

theorem itI_add (a c : Int) : ∀ (j k : Nat) (s : Int), itI a c (j + k) s = itI a c k (itI a c j s) := by
  intro j
  induction j with
  | zero => intro k s; rw [Nat.zero_add]; rfl
  | succ j ih => intro k s; rw [Nat.succ_add, itI, ih, itI]

theorem geo_add (a : Int) : ∀ j k : Nat, geo a (j + k) = geo a j + a ^ j * geo a k := by
  intro j
  induction j with
  | zero => intro k; simp [geo]
  | succ j ih =>
    intro k
    rw [Nat.succ_add, geo, ih, geo, Int.pow_succ]
    grind

theorem pow_one4 {a : Int} {b : Int} (ha : a = 4 * b + 1) : ∀ k : Nat, ∃ v, a ^ k = 4 * v + 1 := by
  intro k
  induction k with
  | zero => exact ⟨0, by simp⟩
  | succ k ih =>
    obtain ⟨v, hv⟩ := ih
    refine ⟨4 * v * b + v + b, ?_⟩
    rw [Int.pow_succ, hv, ha]
    grind

theorem geo_two {a : Int} {b : Int} (ha : a = 4 * b + 1) : ∀ m : Nat, ∃ u, geo a (2 ^ m) = 2 ^ m * (2 * u + 1) := by
  intro m
  induction m with
  | zero => exact ⟨0, by simp [geo]⟩
  | succ m ih =>
    obtain ⟨u, hu⟩ := ih
    obtain ⟨v, hv⟩ := pow_one4 ha (2 ^ m)
    refine ⟨2 * u * v + u + v, ?_⟩
    rw [Nat.pow_succ, Nat.mul_two, geo_add, hu, hv, Int.pow_succ]
    grind

/-- Whatever it begins with, it comes to every number modulo a power of two. -/
theorem reach {a b c e : Int} (ha : a = 4 * b + 1) (hc : c = 2 * e + 1) : ∀ (m : Nat) (s t : Int), ∃ (k : Nat) (q : Int), itI a c k s - t = 2 ^ m * q := by
  intro m
  induction m with
  | zero => intro s t; exact ⟨0, s - t, by simp [itI]⟩
  | succ m ih =>
    intro s t
    obtain ⟨k, q, hq⟩ := ih s t
    rcases Int.emod_two_eq q with h | h
    · refine ⟨k, q / 2, ?_⟩
      have h2 : q = 2 * (q / 2) := by omega
      rw [hq, Int.pow_succ, Int.mul_assoc, ← h2]
    · obtain ⟨u, hu⟩ := geo_two ha m
      have h2 : q = 2 * (q / 2) + 1 := by omega
      generalize q / 2 = p at h2
      subst h2
      generalize hx : itI a c k s = x at hq
      refine ⟨k + 2 ^ m, p + 1 + u + (2 * u + 1) * (2 * b * x + e), ?_⟩
      rw [itI_add, hx, itI_eq, hu]
      have h3 : (a - 1) * x + c = 2 * (2 * b * x + e) + 1 := by rw [ha, hc]; grind
      rw [h3, Int.pow_succ]
      generalize 2 * b * x + e = y
      have h4 : x = t + 2 ^ m * (2 * p + 1) := by omega
      rw [h4]
      generalize (2 : Int) ^ m = z
      grind

/-- The generator's step modulo M. -/
def stp (a c M s : Nat) : Nat := (a * s + c) % M

def itG (a c M : Nat) : Nat → Nat → Nat
  | 0, s => s
  | k + 1, s => itG a c M k (stp a c M s)

theorem itG_zero (a c M s : Nat) : itG a c M 0 s = s := rfl
theorem itG_succ (a c M k s : Nat) : itG a c M (k + 1) s = itG a c M k (stp a c M s) := rfl

theorem stp_lt (a c s : Nat) {M : Nat} (hM : 0 < M) : stp a c M s < M := Nat.mod_lt _ hM

theorem itG_lt (a c : Nat) {M : Nat} (hM : 0 < M) : ∀ (k s : Nat), s < M → itG a c M k s < M := by
  intro k
  induction k with
  | zero => intro s h; exact h
  | succ k ih => intro s h; exact ih _ (stp_lt a c s hM)

theorem itI_mod {a c M : Int} : ∀ (k : Nat) (s t q : Int), s - t = M * q → ∃ q', itI a c k s - itI a c k t = M * q' := by
  intro k
  induction k with
  | zero => intro s t q h; exact ⟨q, h⟩
  | succ k ih =>
    intro s t q h
    refine ih _ _ (a * q) ?_
    have : a * s + c - (a * t + c) = a * (s - t) := by grind
    rw [this, h]
    grind

theorem itG_itI (a c M : Nat) : ∀ (k s : Nat), ∃ q : Int, itI a c k s - itG a c M k s = M * q := by
  intro k
  induction k with
  | zero => intro s; exact ⟨0, by simp [itI, itG]⟩
  | succ k ih =>
    intro s
    obtain ⟨q, hq⟩ := ih (stp a c M s)
    obtain ⟨q', hq'⟩ := itI_mod (a := a) (c := c) (M := M) k ((a : Int) * s + c) (stp a c M s : Nat) (((a * s + c) / M : Nat) : Int) (by
      have h := Nat.div_add_mod (a * s + c) M
      have h2 : ((a : Int) * s + c) = ((M * ((a * s + c) / M) + stp a c M s : Nat) : Int) := by
        rw [show M * ((a * s + c) / M) + stp a c M s = a * s + c from h]
        rw [Int.natCast_add, Int.natCast_mul]
      rw [h2, Int.natCast_add, Int.natCast_mul]
      omega)
    refine ⟨q' + q, ?_⟩
    rw [itI, itG, Int.mul_add, ← hq', ← hq]
    omega

theorem reachG {a b c e M : Nat} (ha : a = 4 * b + 1) (hc : c = 2 * e + 1) (hM : M = 2 ^ 128) (s t : Nat) (hs : s < M) (ht : t < M) : ∃ k, itG a c M k s = t := by
  obtain ⟨k, q, hq⟩ := reach (a := (a : Int)) (b := (b : Int)) (c := (c : Int)) (e := (e : Int)) (by omega) (by omega) 128 s t
  obtain ⟨q2, hq2⟩ := itG_itI a c M k s
  refine ⟨k, ?_⟩
  have hl := itG_lt a c (M := M) (by omega) k s hs
  have e1 : ((2 : Int) ^ 128) = (M : Nat) := by rw [hM]; simp
  rw [e1] at hq
  have hT : 0 < M := by omega
  clear hM e1
  generalize itI a c k s = y at hq hq2
  generalize itG a c M k s = x at hq2 hl ⊢
  have h3 : (x : Int) - t = M * (q - q2) := by rw [Int.mul_sub, ← hq, ← hq2]; omega
  generalize q - q2 = r at h3
  have hr : r = 0 := by
    rcases Int.lt_trichotomy r 0 with h | h | h
    · have h4 : (M : Int) * r ≤ (M : Int) * (-1) := Int.mul_le_mul_of_nonneg_left (by omega) (by omega)
      omega
    · exact h
    · have h4 : (M : Int) * 1 ≤ (M : Int) * r := Int.mul_le_mul_of_nonneg_left (by omega) (by omega)
      omega
  rw [hr] at h3
  omega

theorem least {P : Nat → Prop} : (∃ n, P n) → ∃ n, P n ∧ ∀ m, m < n → ¬ P m := by
  rintro ⟨n, hn⟩
  induction n using Nat.strongRecOn with
  | ind n ih =>
    by_cases h : ∃ m, m < n ∧ P m
    · obtain ⟨m, h1, h2⟩ := h
      exact ih m h1 h2
    · exact ⟨n, hn, fun m hm hp => h ⟨m, hm, hp⟩⟩

/-- How many steps there are to the mark t. -/
noncomputable def distG (a c M t s : Nat) : Nat := by
  classical
  exact if h : ∃ n, itG a c M n s = t ∧ ∀ m, m < n → ¬ itG a c M m s = t then Classical.choose h else 0

theorem distG_spec {a c M t s : Nat} (h0 : ∃ k, itG a c M k s = t) : itG a c M (distG a c M t s) s = t ∧ ∀ m, m < distG a c M t s → ¬ itG a c M m s = t := by
  have h := least h0
  unfold distG
  rw [dif_pos h]
  exact Classical.choose_spec h

theorem distG_step {a c M t s : Nat} (h0 : ∃ k, itG a c M k s = t) (h1 : ∃ k, itG a c M k (stp a c M s) = t) (hm : s ≠ t) : distG a c M t (stp a c M s) < distG a c M t s := by
  obtain ⟨h3, h4⟩ := distG_spec h1
  clear h1
  obtain ⟨h1, h2⟩ := distG_spec h0
  cases hd : distG a c M t s with
  | zero => rw [hd] at h1; exact absurd h1 hm
  | succ k =>
    rw [hd, itG] at h1
    rcases Nat.lt_or_ge k (distG a c M t (stp a c M s)) with h | h
    · exact absurd h1 (h4 k h)
    · omega

theorem halves (K a b c d hi lo : Nat) (hK : 0 < K) :
    stp (a * K + b) (c * K + d) (K * K) (hi * K + lo) / K = (lo * b / K + hi * b + lo * a + c + (lo * b % K + d) / K) % K ∧
    stp (a * K + b) (c * K + d) (K * K) (hi * K + lo) % K = (lo * b % K + d) % K := by
  have e : (a * K + b) * (hi * K + lo) + (c * K + d) = (lo * b % K + d) + K * ((lo * b / K + hi * b + lo * a + c) + K * (a * hi)) := by
    have h := Nat.div_add_mod (lo * b) K
    generalize lo * b / K = x at *
    generalize lo * b % K = y at *
    have h3 : (a * K + b) * (hi * K + lo) = K * (K * (a * hi)) + K * (lo * a) + K * (hi * b) + lo * b := by grind
    rw [h3, ← h]
    grind
  unfold stp
  rw [e]
  generalize lo * b % K + d = y
  generalize lo * b / K + hi * b + lo * a + c = z
  generalize a * hi = t
  have h1 : (y + K * (z + K * t)) % (K * K) / K = ((y + K * (z + K * t)) / K) % K := by
    rw [Nat.mod_mul_right_div_self]
  have h2 : (y + K * (z + K * t)) / K = y / K + (z + K * t) := Nat.add_mul_div_left _ _ hK
  refine ⟨?_, ?_⟩
  · rw [h1, h2, show y / K + (z + K * t) = (z + y / K) + K * t by omega, Nat.add_mul_mod_self_left]
  · rw [Nat.mod_mul_right_mod, Nat.add_mul_mod_self_left]

/-- The step by halves, of Go's generator. -/
def nhi (hi lo : Nat) : Nat := (lo * 4865540595714422341 / 18446744073709551616 + hi * 4865540595714422341 + lo * 2549297995355413924 + 6364136223846793005 + (lo * 4865540595714422341 % 18446744073709551616 + 1442695040888963407) / 18446744073709551616) % 18446744073709551616
def nlo (lo : Nat) : Nat := (lo * 4865540595714422341 % 18446744073709551616 + 1442695040888963407) % 18446744073709551616

theorem nhi_lt (hi lo : Nat) : nhi hi lo < 18446744073709551616 := Nat.mod_lt _ (Nat.zero_lt_succ _)
theorem nlo_lt (lo : Nat) : nlo lo < 18446744073709551616 := Nat.mod_lt _ (Nat.zero_lt_succ _)

/-- The generator's numbers under letters. -/
structure Nums (K a b c d : Nat) : Prop where
  k : K = 18446744073709551616
  a : a = 2549297995355413924
  b : b = 4865540595714422341
  c : c = 6364136223846793005
  d : d = 1442695040888963407

theorem nums_at {K a b c d : Nat} (h : Nums K a b c d) {hi lo : Nat} (hhi : hi < K) (hlo : lo < K) : stp (a * K + b) (c * K + d) (K * K) (hi * K + lo) = nhi hi lo * K + nlo lo := by
  have h0 : 0 < K := by rw [h.k]; exact Nat.zero_lt_succ _
  obtain ⟨h1, h2⟩ := halves K a b c d hi lo h0
  have h3 := Nat.div_add_mod (stp (a * K + b) (c * K + d) (K * K) (hi * K + lo)) K
  rw [h1, h2] at h3
  have e1 : nhi hi lo = (lo * b / K + hi * b + lo * a + c + (lo * b % K + d) / K) % K := by rw [h.k, h.a, h.b, h.c, h.d]; rfl
  have e2 : nlo lo = (lo * b % K + d) % K := by rw [h.k, h.b, h.d]; rfl
  rw [e1, e2, ← h3, Nat.mul_comm K]

theorem nums_reach {K a b c d : Nat} (h : Nums K a b c d) (s t : Nat) (hs : s < K * K) (ht : t < K * K) : ∃ k, itG (a * K + b) (c * K + d) (K * K) k s = t := by
  refine reachG (b := a * (K / 4) + b / 4) (e := c * (K / 2) + d / 2) ?_ ?_ ?_ s t hs ht
  · rw [h.k, h.a, h.b]
  · rw [h.k, h.c, h.d]
  · rw [h.k]

/-- How far it is from a state to the state of halves 1, 0. -/
noncomputable def dst (hi lo : Nat) : Nat :=
  distG (2549297995355413924 * 18446744073709551616 + 4865540595714422341) (6364136223846793005 * 18446744073709551616 + 1442695040888963407) (18446744073709551616 * 18446744073709551616) 18446744073709551616 (hi * 18446744073709551616 + lo)

theorem nums_step {K a b c d : Nat} (h : Nums K a b c d) {hi lo : Nat} (hhi : hi < K) (hlo : lo < K) (hne : ¬ (hi = 1 ∧ lo = 0)) :
    distG (a * K + b) (c * K + d) (K * K) K (nhi hi lo * K + nlo lo) < distG (a * K + b) (c * K + d) (K * K) K (hi * K + lo) := by
  have k0 : 1 < K := by rw [h.k]; omega
  have pair : ∀ x y : Nat, x < K → y < K → x * K + y < K * K := fun x y hx hy => by
    have h1 : (x + 1) * K ≤ K * K := Nat.mul_le_mul_right K hx
    rw [Nat.add_mul] at h1
    omega
  have n1 : nhi hi lo < K := by rw [h.k]; exact nhi_lt hi lo
  have n2 : nlo lo < K := by rw [h.k]; exact nlo_lt lo
  have hK : K < K * K := by
    have h1 : 2 * K ≤ K * K := Nat.mul_le_mul_right K k0
    omega
  rw [← nums_at h hhi hlo]
  refine distG_step (nums_reach h _ _ (pair _ _ hhi hlo) hK) (nums_reach h _ _ (by rw [nums_at h hhi hlo]; exact pair _ _ n1 n2) hK) fun e => hne ?_
  have h2 : (hi * K + lo) / K = hi := by rw [Nat.mul_comm, Nat.mul_add_div (by omega), Nat.div_eq_of_lt hlo, Nat.add_zero]
  have h3 : (hi * K + lo) % K = lo := by rw [Nat.mul_comm, Nat.mul_add_mod, Nat.mod_eq_of_lt hlo]
  rw [e, Nat.div_self (by omega)] at h2
  rw [e, Nat.mod_self] at h3
  exact ⟨h2.symm, h3.symm⟩

theorem dst_step {hi lo : Nat} (hhi : hi < 18446744073709551616) (hlo : lo < 18446744073709551616) (hne : ¬ (hi = 1 ∧ lo = 0)) : dst (nhi hi lo) (nlo lo) < dst hi lo :=
  nums_step ⟨rfl, rfl, rfl, rfl, rfl⟩ hhi hlo hne

/-- What is drawn from a state of halves hi, lo. -/
def outH (hi lo : Nat) : Nat :=
  ((((hi ^^^ (hi / 4294967296)) * 15750249268501108917 % 18446744073709551616) ^^^ (((hi ^^^ (hi / 4294967296)) * 15750249268501108917 % 18446744073709551616) / 281474976710656)) * (lo ||| 1)) % 18446744073709551616

theorem out_mark : ∀ n, n < 201 → 0 < n → (18446744073709551616 - n) % n ≤ outH 1 0 * n % 18446744073709551616 := by decide +kernel
end Lox.Rn

namespace Go.Proofs.YtpamoleocjdjiaaDoor
open Go.RowKit Lox Go.Lib
set_option linter.unusedVariables false

set_option maxHeartbeats 1000000 in
theorem mul64_at (x y : Nat) (hx : x < 18446744073709551616) (hy : y < 18446744073709551616) (w : World) :
    Calls Tryd.prog 81 #[.int .u64 x, .int .u64 y] w fun e w' => e = .returned (.tuple #[.int .u64 ((x * y / 18446744073709551616 : Nat) : Int), .int .u64 ((x * y % 18446744073709551616 : Nat) : Int)]) ∧ w = w' := by
  obtain ⟨bd, bt, bw, hhi⟩ := Lib.mul64_hi x y hx hy
  have ba := Lib.half_mul_le (a := x / 4294967296) (b := y / 4294967296) (by omega) (by omega)
  have bb := Lib.half_mul_le (a := x / 4294967296) (b := y % 4294967296) (by omega) (by omega)
  have bc := Lib.half_mul_le (a := x % 4294967296) (b := y / 4294967296) (by omega) (by omega)
  have ba' : x / 4294967296 * (y / 4294967296) < 18446744073709551616 := by omega
  have bb' : x / 4294967296 * (y % 4294967296) < 18446744073709551616 := by omega
  have bc' : x % 4294967296 * (y / 4294967296) < 18446744073709551616 := by omega
  have bh1 : x / 4294967296 * (y / 4294967296) + (x / 4294967296 * (y % 4294967296) + x % 4294967296 * (y % 4294967296) / 4294967296) / 4294967296 < 18446744073709551616 := by omega
  have bh : x / 4294967296 * (y / 4294967296) + (x / 4294967296 * (y % 4294967296) + x % 4294967296 * (y % 4294967296) / 4294967296) / 4294967296 + ((x / 4294967296 * (y % 4294967296) + x % 4294967296 * (y % 4294967296) / 4294967296) % 4294967296 + x % 4294967296 * (y / 4294967296)) / 4294967296 < 18446744073709551616 := by omega
  go_enter Tryd.func81, Tryd.ntmps81
  go_wp2
  simp only [Mul64.maskN x hx, Mul64.maskN y hy, Mul64.divN, Mul64.mulN, Mul64.addN, Mul64.wrapN _ bd, Mul64.wrapN _ bb', Mul64.wrapN _ bt, Mul64.maskN _ bt, Mul64.wrapN _ bc', Mul64.wrapN _ bw, Mul64.wrapN _ ba', Mul64.wrapN _ bh1, Mul64.wrapN _ bh, Mul64.wrapM (x * y)]
  rw [hhi]
  go_ret2
  exact ⟨rfl, rfl⟩

theorem add64 (x y c : Int) (hx : 0 ≤ x) (hy : 0 ≤ y) (hc0 : 0 ≤ c) (hc : c ≤ 1) (w : World) : (callFunc 122 #[.int .u64 x, .int .u64 y, .int .u64 c]).run Tryd.prog w =
    .ok (.value (.tuple #[.int .u64 ((x + y + c) % 18446744073709551616), .int .u64 ((x + y + c) / 18446744073709551616)])) w := by
  obtain ⟨x, rfl⟩ := Int.eq_ofNat_of_zero_le hx
  obtain ⟨y, rfl⟩ := Int.eq_ofNat_of_zero_le hy
  obtain ⟨c, rfl⟩ := Int.eq_ofNat_of_zero_le hc0
  rw [run_callFunc_extern Tryd.func122 (by kernel_rfl) (by kernel_rfl) (by kernel_rfl) (e := add64Entry) (by kernel_rfl), run_add64 x y c (by omega) (by omega) (by omega) (by omega)]
  simp only [Result.andThen]

theorem add64_0 (x y : Int) (hx : 0 ≤ x) (hy : 0 ≤ y) (w : World) : (callFunc 122 #[.int .u64 x, .int .u64 y, .int .u64 0]).run Tryd.prog w =
    .ok (.value (.tuple #[.int .u64 ((x + y) % 18446744073709551616), .int .u64 ((x + y) / 18446744073709551616)])) w := by
  simpa using add64 x y 0 hx hy (Int.le_refl 0) (by decide) w
end Go.Proofs.YtpamoleocjdjiaaDoor

namespace Go.Proofs.YtpamoleocjdjiaaDoor
open Go.RowKit Lox Go.Lib
set_option linter.unusedVariables false

/-- The generator in memory: its halves. -/
def Gen (w : World) (pb hi lo : Nat) : Prop := (hi < 18446744073709551616 ∧ lo < 18446744073709551616) ∧ Blk w pb 122 [.int .u64 hi, .int .u64 lo]

theorem rn_drewN (S : Nat → Prop) (w : World) (n : Nat) : Mod S w (w.drewN n) := ⟨rfl, rfl, rfl, Nat.le_refl _, fun _ _ _ => rfl⟩

theorem next_at (w : World) (pb hi lo : Nat) (hb : Gen w pb hi lo) :
    Calls Tryd.prog 121 #[.pointer (some ⟨pb, 0, none⟩)] w fun e w' => e = .returned (.tuple #[.int .u64 (Rn.nhi hi lo), .int .u64 (Rn.nlo lo)]) ∧ Gen w' pb (Rn.nhi hi lo) (Rn.nlo lo) ∧ Mod (fun k => k = pb) w w' := by
  obtain ⟨⟨hhi, hlo⟩, hb⟩ := hb
  have c0 : w.cell? ⟨pb, 0, none⟩ = some (.int .u64 hi) := hb.at (i := 0) rfl
  have c1 : w.cell? ⟨pb, 1, none⟩ = some (.int .u64 lo) := hb.at (i := 1) rfl
  have z0 := hb.frozen 0
  have z1 := hb.frozen 1
  obtain ⟨H, eH⟩ : ∃ H, H = lo * 4865540595714422341 / 18446744073709551616 := ⟨_, rfl⟩
  obtain ⟨L, eL⟩ : ∃ L, L = lo * 4865540595714422341 % 18446744073709551616 := ⟨_, rfl⟩
  have hL : L < 18446744073709551616 := by rw [eL]; exact Nat.mod_lt _ (Nat.zero_lt_succ _)
  have n1 : Rn.nhi hi lo = (H + hi * 4865540595714422341 + lo * 2549297995355413924 + 6364136223846793005 + (L + 1442695040888963407) / 18446744073709551616) % 18446744073709551616 := by rw [eH, eL]; rfl
  have n2 : Rn.nlo lo = (L + 1442695040888963407) % 18446744073709551616 := by rw [eL]; rfl
  have M64 : Hid (Calls Tryd.prog 81 #[.int .u64 (lo : Int), .int .u64 4865540595714422341] w fun e w' => e = .returned (.tuple #[.int .u64 (H : Int), .int .u64 (L : Int)]) ∧ w = w') := by
    rw [eH, eL]
    exact mul64_at lo 4865540595714422341 hlo (by omega) w
  have HB := Lib.hid (And.intro hb (And.intro n1 n2))
  clear hb eH eL n1 n2
  go_enter Tryd.func121, Tryd.ntmps121
  go_upto_region 2 with (go_at_call 81; refine M64.out.mono ?_; rintro _ _ ⟨rfl, rfl⟩)
  go_quiet (fail)
  obtain ⟨g, eg⟩ : ∃ g : Nat, g = (H + hi * 4865540595714422341 + lo * 2549297995355413924) % 18446744073709551616 := ⟨_, rfl⟩
  have eG : IntKind.u64.wrap ((H : Int) + IntKind.u64.wrap (IntKind.u64.wrap ((hi : Int) * 4865540595714422341) + IntKind.u64.wrap ((lo : Int) * 2549297995355413924))) = (g : Int) := by
    simp only [IntKind.wrap_u64]
    omega
  have hLO : ((L : Int) + 1442695040888963407) % 18446744073709551616 = ((Rn.nlo lo : Nat) : Int) := by rw [HB.out.2.2]; omega
  have hHI : ((g : Int) + 6364136223846793005 + ((L : Int) + 1442695040888963407) / 18446744073709551616) % 18446744073709551616 = ((Rn.nhi hi lo : Nat) : Int) := by
    rw [HB.out.2.1, eg]
    omega
  have A1 : ∀ w : World, (callFunc 122 #[.int .u64 (L : Int), .int .u64 1442695040888963407, .int .u64 0]).run Tryd.prog w = .ok (.value (.tuple #[.int .u64 ((Rn.nlo lo : Nat) : Int), .int .u64 (((L : Int) + 1442695040888963407) / 18446744073709551616)])) w := fun w => by rw [add64_0 (L : Int) 1442695040888963407 (by omega) (by decide), hLO]
  have A2 : ∀ w : World, (callFunc 122 #[.int .u64 (g : Int), .int .u64 6364136223846793005, .int .u64 (((L : Int) + 1442695040888963407) / 18446744073709551616)]).run Tryd.prog w = .ok (.value (.tuple #[.int .u64 ((Rn.nhi hi lo : Nat) : Int), .int .u64 (((g : Int) + 6364136223846793005 + ((L : Int) + 1442695040888963407) / 18446744073709551616) / 18446744073709551616)])) w := fun w => by rw [add64 (g : Int) 6364136223846793005 (((L : Int) + 1442695040888963407) / 18446744073709551616) (by omega) (by decide) (by omega) (by omega), hHI]
  simp only [eG]
  clear eG eg hLO hHI
  go_wp2_with (first | simp only [A1] | simp only [A2])
  go_ret2
  have hb := HB.out.1
  refine ⟨rfl, ⟨⟨Rn.nhi_lt _ _, Rn.nlo_lt _⟩, ?_⟩, ?_⟩
  · exact ((show Blk (w.drewN _) pb _ _ from hb).set 1 (.int .u64 (Rn.nlo lo))).set 0 (.int .u64 (Rn.nhi hi lo))
  · exact ((rn_drewN (fun k => k = pb) w _).set (p := ⟨pb, 1, none⟩) (.inl rfl) _).set (p := ⟨pb, 0, none⟩) (.inl rfl) _

theorem shr32 (x : Nat) : (x : Int) / 4294967296 = ((x / 4294967296 : Nat) : Int) := by omega

/-- A number is drawn. -/
theorem draw_at (w : World) (pb hi lo : Nat) (hb : Gen w pb hi lo) :
    Calls Tryd.prog 120 #[.pointer (some ⟨pb, 0, none⟩)] w fun e w' => e = .returned (.int .u64 (Rn.outH (Rn.nhi hi lo) (Rn.nlo lo))) ∧ Gen w' pb (Rn.nhi hi lo) (Rn.nlo lo) ∧ Mod (fun k => k = pb) w w' := by
  have NX := Lib.hid (next_at w pb hi lo hb)
  have h1 := Rn.nhi_lt hi lo
  have h2 := Rn.nlo_lt lo
  clear hb
  generalize Rn.nhi hi lo = p at *
  generalize Rn.nlo lo = q at *
  obtain ⟨a, ea⟩ : ∃ a, a = (p ^^^ (p / 4294967296)) * 15750249268501108917 % 18446744073709551616 := ⟨_, rfl⟩
  have ha : a < 18446744073709551616 := by rw [ea]; exact Nat.mod_lt _ (Nat.zero_lt_succ _)
  have E1 : IntKind.u64.wrap (bits .xor .u64 (p : Int) ((p : Int) / 4294967296) * 15750249268501108917) = (a : Int) := by
    have := mixStep_u64 p 4294967296 15750249268501108917 h1
    rw [ea]
    exact this
  have hx : a ^^^ (a / 281474976710656) < 18446744073709551616 := Nat.xor_lt_two_pow (n := 64) (by omega) (by omega)
  have E2 : bits .xor .u64 (a : Int) ((a : Int) / 281474976710656) = ((a ^^^ (a / 281474976710656) : Nat) : Int) := xorShift_u64 a 281474976710656 ha
  have E3 : bits .or .u64 (q : Int) 1 = ((q ||| 1 : Nat) : Int) := bits_or_u64_nat q 1 h2 (by omega)
  have E4 : IntKind.u64.wrap (((a ^^^ (a / 281474976710656) : Nat) : Int) * ((q ||| 1 : Nat) : Int)) = ((Rn.outH p q : Nat) : Int) := by
    rw [IntKind.wrap_u64]
    unfold Rn.outH
    rw [← ea]
    omega
  clear ea ha hx
  go_enter Tryd.func120, Tryd.ntmps120
  go_wp2_with (go_at_call 121; refine NX.out.mono ?_; rintro _ w1 ⟨rfl, g1, g2⟩; have H1 := Lib.hid (And.intro g1 g2); clear g1 g2)
  go_ret
  exact ⟨rfl, H1.out.1, H1.out.2⟩
end Go.Proofs.YtpamoleocjdjiaaDoor

namespace Go.Proofs.YtpamoleocjdjiaaDoor
open Go.RowKit Lox Go.Lib
set_option linter.unusedVariables false

theorem rmeth_u64 (a : Addr) (w : World) : (method 308 89 (.pointer (some a)) "Uint64").run Tryd.prog w = .ok (120, .pointer (some a)) w := by kernel_rfl

/-- The generator with its source, in memory. -/
def Rnd (w : World) (rb pb hi lo : Nat) : Prop := rb ≠ pb ∧ Gen w pb hi lo ∧ Blk w rb 133 [.iface 89 (.pointer (some ⟨pb, 0, none⟩))]

theorem Rnd.step {w w' : World} {rb pb hi lo hi' lo' : Nat} (h : Rnd w rb pb hi lo) (hg : Gen w' pb hi' lo') (hm : Mod (fun k => k = pb) w w') : Rnd w' rb pb hi' lo' := ⟨h.1, hg, h.2.2.mod hm h.1⟩

theorem rdraw_at (w : World) (rb pb hi lo : Nat) (h : Rnd w rb pb hi lo) :
    Calls Tryd.prog 80 #[.pointer (some ⟨rb, 0, none⟩)] w fun e w' => e = .returned (.int .u64 (Rn.outH (Rn.nhi hi lo) (Rn.nlo lo))) ∧ Rnd w' rb pb (Rn.nhi hi lo) (Rn.nlo lo) ∧ Mod (fun k => k = pb) w w' := by
  have DR := Lib.hid (draw_at w pb hi lo h.2.1)
  have c0 : w.cell? ⟨rb, 0, none⟩ = some (.iface 89 (.pointer (some ⟨pb, 0, none⟩))) := h.2.2.at (i := 0) rfl
  have m1 := rmeth_u64
  have HH := Lib.hid h
  clear h
  go_enter Tryd.func80, Tryd.ntmps80
  go_wp2_with (go_at_call 120; refine DR.out.mono ?_; rintro _ w1 ⟨rfl, g1, g2⟩; have H1 := Lib.hid (And.intro g1 g2); clear g1 g2)
  go_ret
  exact ⟨rfl, HH.out.step H1.out.1 H1.out.2, H1.out.2⟩

theorem outH_lt (p q : Nat) : Rn.outH p q < 18446744073709551616 := Nat.mod_lt _ (Nat.zero_lt_succ _)

/-- What a draw below n tells. -/
def IntTold (rb pb n : Nat) (w : World) (e : Ending) (w' : World) (f : Nat → Value) : Prop :=
  ∃ v hi lo, e = .returned (f v) ∧ v < n ∧ Rnd w' rb pb hi lo ∧ Mod (fun k => k = pb) w w'

/-- The state that stands in memory: how far it is from the mark. -/
noncomputable def farOf (pb : Nat) (w : World) : Nat :=
  match w.cell? ⟨pb, 0, none⟩, w.cell? ⟨pb, 1, none⟩ with
  | some (.int _ a), some (.int _ b) => Rn.dst a.toNat b.toNat
  | _, _ => 0

theorem farOf_eq {w : World} {pb hi lo : Nat} (h : Gen w pb hi lo) : farOf pb w = Rn.dst hi lo := by
  have c0 : w.cell? ⟨pb, 0, none⟩ = some (.int .u64 hi) := h.2.at (i := 0) rfl
  have c1 : w.cell? ⟨pb, 1, none⟩ = some (.int .u64 lo) := h.2.at (i := 1) rfl
  unfold farOf
  rw [c0, c1]
  simp

theorem mul_hi_lt {x n : Nat} (hx : x < 18446744073709551616) (hn : 0 < n) : x * n / 18446744073709551616 < n := by
  rw [Nat.div_lt_iff_lt_mul (by omega), Nat.mul_comm n]
  exact Nat.mul_lt_mul_of_pos_right hx hn

set_option maxHeartbeats 4000000 in
theorem uint64n_at (w : World) (rb pb n hi lo : Nat) (h : Rnd w rb pb hi lo) (hn : 0 < n) (hn2 : n ≤ 200) :
    Calls Tryd.prog 64 #[.pointer (some ⟨rb, 0, none⟩), .int .u64 n] w fun e w' => IntTold rb pb n w e w' fun v => .int .u64 v := by
  have w1 : IntKind.u64.wrap ((n : Int) - 1) = (n : Int) - 1 := by rw [IntKind.wrap_u64]; omega
  have w1' : ((n : Int) - 1) = ((n - 1 : Nat) : Int) := by omega
  have e1 : bits .and .u64 (n : Int) ((n : Int) - 1) = ((n &&& (n - 1) : Nat) : Int) := by rw [w1']; exact bits_and_u64_nat n (n - 1) (by omega) (by omega)
  have DR : Hid (∀ (W : World) (a b : Nat), Rnd W rb pb a b → Calls Tryd.prog 80 #[.pointer (some ⟨rb, 0, none⟩)] W fun e w' => e = .returned (.int .u64 (Rn.outH (Rn.nhi a b) (Rn.nlo b))) ∧ Rnd w' rb pb (Rn.nhi a b) (Rn.nlo b) ∧ Mod (fun k => k = pb) W w') := fun W a b hR => rdraw_at W rb pb a b hR
  have M64 : Hid (∀ (x : Nat) (W : World), x < 18446744073709551616 → Calls Tryd.prog 81 #[.int .u64 (x : Int), .int .u64 (n : Int)] W fun e w' => ∃ a b : Nat, a < n ∧ b = x * n % 18446744073709551616 ∧ e = .returned (.tuple #[.int .u64 (a : Int), .int .u64 (b : Int)]) ∧ W = w') := fun x W hx => (mul64_at x n hx (by omega) W).mono fun e w' ⟨h1, h2⟩ => ⟨_, _, mul_hi_lt hx hn, rfl, h1, h2⟩
  have HH := Lib.hid h
  clear h w1'
  by_cases hz : n &&& (n - 1) = 0
  · rw [hz] at e1
    have e2 : ∀ x : Nat, x < 18446744073709551616 → bits .and .u64 (x : Int) ((n : Int) - 1) = ((x &&& (n - 1) : Nat) : Int) := fun x hx => by
      rw [show ((n : Int) - 1) = ((n - 1 : Nat) : Int) by omega]
      exact bits_and_u64_nat x (n - 1) hx (by omega)
    clear hz
    go_enter Tryd.func64, Tryd.ntmps64
    go_wp2_with (go_at_call 80; refine (DR.out _ hi lo HH.out).mono ?_; rintro _ w2 ⟨rfl, g1, g2⟩; have e3 := e2 _ (outH_lt (Rn.nhi hi lo) (Rn.nlo lo)); have H1 := Lib.hid (And.intro g1 g2); clear g1 g2)
    go_ret
    exact ⟨_, _, _, rfl, Nat.lt_of_le_of_lt Nat.and_le_right (by omega), H1.out.1, H1.out.2⟩
  · have hz' : ((n &&& (n - 1) : Nat) : Int) ≠ 0 := by omega
    have e2 : (((n &&& (n - 1) : Nat) : Int) == 0) = false := beq_eq_false_iff_ne.2 hz'
    generalize n &&& (n - 1) = nn at e1 e2 hz hz'
    clear hz hz'
    have t0 : IntKind.u64.wrap (-(n : Int)) = ((18446744073709551616 - n : Nat) : Int) := by rw [IntKind.wrap_u64]; omega
    go_enter Tryd.func64, Tryd.ntmps64
    have hn0 : ((n : Int) == 0) = false := beq_eq_false_iff_ne.2 (by omega)
    obtain ⟨th, eth⟩ : ∃ th : Nat, th = (18446744073709551616 - n) % n := ⟨_, rfl⟩
    have HTH := Lib.hid eth
    have eT : Int.tmod ((18446744073709551616 - n : Nat) : Int) (n : Int) = (th : Int) := by rw [eth]; rfl
    have eT2 : ((18446744073709551616 - n : Nat) : Int) % (n : Int) = (th : Int) := by rw [eth]; rfl
    clear eth
    go_upto_region 6 with (first
      | (go_at_call 80; refine (DR.out _ hi lo HH.out).mono ?_; rintro _ w2 ⟨rfl, g1, g2⟩; obtain ⟨p, ep⟩ : ∃ p, p = Rn.nhi hi lo := ⟨_, rfl⟩; obtain ⟨q, eq⟩ : ∃ q, q = Rn.nlo lo := ⟨_, rfl⟩; rw [← ep, ← eq] at g1; rw [← ep, ← eq]; have H1 := Lib.hid (And.intro g1 g2); clear g1 g2 ep eq)
      | (go_at_call 81; refine (M64.out _ _ (outH_lt p q)).mono ?_; rintro _ _ ⟨a, b, ha, hb, rfl, rfl⟩; have HB := Lib.hid hb; clear hb))
    by_cases hbn : b < n
    · have hbn' : (b : Int) < n := by omega
      clear hbn
      go_wp2_with fail
      go_loopw [5, 6] (fun vh vl w' => ∃ a b p q : Nat, vh = .int .u64 a ∧ vl = .int .u64 b ∧ a < n ∧ Hid (b = Rn.outH p q * n % 18446744073709551616 ∧ Rnd w' rb pb p q ∧ Mod (fun k => k = pb) w w')) (fun _ _ w' => farOf pb w')
      case atStart => exact ⟨a, b, p, q, rfl, rfl, ha, HB.out, H1.out.1, H1.out.2⟩
      case round =>
        obtain ⟨a', b', p', q', rfl, rfl, ha', HR⟩ := hrel
        by_cases hlt : b' < th
        · have hlt' : (b' : Int) < th := by omega
          have hne : ¬ (p' = 1 ∧ q' = 0) := by
            rintro ⟨rfl, rfl⟩
            have h1 := Rn.out_mark n (by omega) hn
            rw [← HTH.out, ← HR.out.1] at h1
            omega
          have HNE := Lib.hid hne
          clear hne hlt ha
          go_wp2_with (first
            | (go_at_call 80; refine (DR.out _ p' q' HR.out.2.1).mono ?_; rintro _ w4 ⟨rfl, g1, g2⟩; obtain ⟨p4, ep⟩ : ∃ p4, p4 = Rn.nhi p' q' := ⟨_, rfl⟩; obtain ⟨q4, eq⟩ : ∃ q4, q4 = Rn.nlo q' := ⟨_, rfl⟩; rw [← ep, ← eq] at g1; rw [← ep, ← eq]; have H4 := Lib.hid (And.intro g1 (And.intro g2 (And.intro ep eq))); clear g1 g2 ep eq)
            | (go_at_call 81; refine (M64.out _ _ (outH_lt p4 q4)).mono ?_; rintro _ _ ⟨a4, b4, ha4, hb4, rfl, rfl⟩; have HB4 := Lib.hid hb4; clear hb4))
          go_roundw
          case rel => exact ⟨a4, b4, p4, q4, rfl, rfl, ha4, HB4.out, H4.out.1, HR.out.2.2.trans H4.out.2.1⟩
          case measure =>
            rw [farOf_eq H4.out.1.2.1, farOf_eq HR.out.2.1.2.1, H4.out.2.2.1, H4.out.2.2.2]
            exact Rn.dst_step HR.out.2.1.2.1.1.1 HR.out.2.1.2.1.1.2 HNE.out
        · have hlt' : ¬ (b' : Int) < th := by omega
          go_wp2_with fail
          go_ret
          exact ⟨_, _, _, rfl, ha', HR.out.2.1, HR.out.2.2⟩
    · have hbn' : ¬ (b : Int) < n := by omega
      go_wp2_with fail
      go_ret
      exact ⟨_, _, _, rfl, ha, H1.out.1, H1.out.2⟩

theorem intn_at (w : World) (rb pb n hi lo : Nat) (h : Rnd w rb pb hi lo) (hn : 0 < n) (hn2 : n ≤ 200) :
    Calls Tryd.prog 56 #[.pointer (some ⟨rb, 0, none⟩), .int .i64 n] w fun e w' => IntTold rb pb n w e w' fun v => .int .i64 v := by
  have U := Lib.hid (uint64n_at w rb pb n hi lo h hn hn2)
  have w1 : IntKind.u64.wrap (n : Int) = (n : Int) := by rw [IntKind.wrap_u64]; omega
  clear h
  go_enter Tryd.func56, Tryd.ntmps56
  go_wp2_with (go_at_call 64; refine U.out.mono ?_; rintro _ w2 ⟨v, hi2, lo2, rfl, hv, h1, h2⟩; have w2' : IntKind.i64.wrap (v : Int) = (v : Int) := IntWalk.i64_in _ (by omega); have H1 := Lib.hid (And.intro h1 h2); clear h1 h2)
  go_ret
  exact ⟨_, _, _, rfl, hv, H1.out.1, H1.out.2⟩
end Go.Proofs.YtpamoleocjdjiaaDoor
