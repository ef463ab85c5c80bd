/- The walk of the law's kpReal: the distances of what a keeper holds, without its marks. Conditions: as it says. -/
import Derived.Test.YtncpdjlladlalaaKpCheck
namespace Go.Proofs.Ytncpdjlladlalaa
open Go.RowKit Lox
set_option linter.unusedVariables false
attribute [local go_sem] run_store_flt run_store_fn

def lenOf : Value → Nat
  | .slice _ n _ => n
  | _ => 0

/-- Those of a row above the mark. -/
def reals (xs : List Nat) : List Nat := xs.filter fun x => decide (fk NEG1 < fk x)

theorem reals_split {ps rs : List Nat} (h1 : ∀ z ∈ ps, fk z = fk NEG1) (h2 : Inc rs) (h3 : ∀ z, rs.head? = some z → fk NEG1 < fk z) : reals (ps ++ rs) = rs := by
  unfold reals
  rw [List.filter_append, List.filter_eq_nil_iff.2 (fun z hz => by rw [h1 z hz]; simp), List.filter_eq_self.2, List.nil_append]
  intro z hz
  cases rs with
  | nil => cases hz
  | cons a l =>
    have ha := h3 a rfl
    rcases List.mem_cons.1 hz with rfl | hz
    · exact decide_eq_true ha
    · have := (List.pairwise_cons.1 h2).1 z hz
      exact decide_eq_true (by omega)

/-- What kpReal tells. -/
def RealTold (xs : List Nat) (w : World) (e : Ending) (w' : World) : Prop :=
  ∃ ys A q c, e = .returned (.slice A q c) ∧ q ≤ c ∧ Sl w' A q 1 (flts ys) ∧ Mod (fun _ => False) w w' ∧ ys.Perm (reals xs) ∧ Inc ys

set_option maxRecDepth 100000 in
set_option maxHeartbeats 4000000 in
theorem real_at (w : World) (A : Option Addr) (n c : Nat) (xs : List Nat) (h : Sl w A n 1 (flts xs)) (hn : n ≤ 2147483647) (hx : ∀ x ∈ xs, Lox.Fin x ∧ fk NEG1 ≤ fk x) :
    Calls Try.prog 21 #[.slice A n c] w (RealTold xs w) := by
  have HK := Lib.hid (And.intro h hx)
  clear h hx
  go_enter Try.func21, Try.ntmps21
  go_wp2_with (go_at_call 43; refine (increasing_at w A n c xs HK.out.1 hn (fun y hy => (HK.out.2 y hy).1)).mono ?_; rintro _ w1 ⟨zs, A1, c1, rfl, hc1, hs1, hm1, hp1, hi1⟩; have H1 := Lib.hid (And.intro hs1 (And.intro hm1 (And.intro hp1 hi1))); clear hs1 hm1 hp1 hi1)
  go_loop [3] (fun v => ∃ (ps rs : List Nat) (A' : Option Addr) (m c' : Nat), v = .slice A' m c' ∧ m ≤ c' ∧ m ≤ n ∧ Hid (zs = ps ++ rs ∧ Sl w1 A' m 1 (flts rs) ∧ ∀ z ∈ ps, fk z = fk NEG1)) (fun v => lenOf v)
  case atStart => exact ⟨[], zs, A1, n, c1, rfl, hc1, Nat.le_refl _, rfl, H1.out.1, fun z h => by cases h⟩
  case round =>
    obtain ⟨ps, rs, A', m, c', rfl, hmc, hmn, HR⟩ := hrel
    have hrl : rs.length = m := by have := HR.out.2.1.1; simpa [flts] using this
    have hinc : Inc rs := by have := H1.out.2.2.2; rw [HR.out.1] at this; exact (List.pairwise_append.1 this).2.1
    rcases Nat.eq_zero_or_pos m with h0 | h0
    · subst h0
      go_wp2
      go_ret
      refine ⟨rs, A', 0, c', rfl, Nat.zero_le _, HR.out.2.1, H1.out.2.1, ?_, hinc⟩
      have e : rs = reals zs := by
        rw [HR.out.1, reals_split HR.out.2.2 hinc (fun z hz => ?_)]
        have : rs = [] := List.length_eq_zero_iff.1 hrl
        rw [this] at hz
        cases hz
      rw [e]
      exact H1.out.2.2.1.filter _
    · obtain ⟨b, o, v, e1, e2, cv⟩ := HR.out.2.1.at1 h0
      cases hrs : rs with
      | nil => rw [hrs] at hrl; simp at hrl; omega
      | cons z rs' =>
        rw [hrs] at e2
        simp [flts] at e2
        subst e2
        have hz : Lox.Fin z ∧ fk NEG1 ≤ fk z := HK.out.2 z (H1.out.2.2.1.mem_iff.1 (by rw [HR.out.1, hrs]; simp))
        obtain ⟨g, hg⟩ : ∃ g, g = (FloatKind.f64.format.order z 13830554455654793216 == some .eq) := ⟨_, rfl⟩
        have hg2 : g = decide (fk z = fk NEG1) := hg.trans (ord_eq hz.1 fin_neg1)
        obtain ⟨m', rfl⟩ : ∃ m', m = m' + 1 := ⟨m - 1, by omega⟩
        obtain ⟨q, rfl⟩ : ∃ q, c' = q + 1 := ⟨c' - 1, by omega⟩
        have HG := Lib.hid (And.intro hg2 (And.intro hz (And.intro hrl (And.intro hinc hrs))))
        rw [Nat.add_zero] at cv
        clear hg2 hz hrl hinc hrs
        subst e1
        have hg' := hg.symm
        clear hg
        cases g with
        | false =>
          go_wp2
          go_ret
          refine ⟨rs, some ⟨b, o, none⟩, m' + 1, q + 1, rfl, hmc, HR.out.2.1, H1.out.2.1, ?_, HG.out.2.2.2.1⟩
          have e : rs = reals zs := by
            rw [HR.out.1, reals_split HR.out.2.2 HG.out.2.2.2.1 (fun y hy => ?_)]
            rw [HG.out.2.2.2.2] at hy
            cases hy
            have := of_decide_eq_false HG.out.1.symm
            have := HG.out.2.1.2
            omega
          rw [e]
          exact H1.out.2.2.1.filter _
        | true =>
          go_wp2
          refine ⟨⟨ps ++ [z], rs', _, m', q, rfl, by omega, by omega, by rw [HR.out.1, HG.out.2.2.2.2]; simp, ?_, fun y hy => ?_⟩, by simp [lenOf]⟩
          · have hs := HR.out.2.1
            rw [HG.out.2.2.2.2] at hs
            refine ⟨by have := HG.out.2.2.1; rw [HG.out.2.2.2.2] at this; simp [flts] at this ⊢; omega, fun h0 => ?_⟩
            rw [if_neg (by omega)]
            obtain ⟨b', o', e, hc⟩ := hs.2 (by omega)
            cases e
            refine ⟨b, o + 1, rfl, fun j v hv => ?_⟩
            have := hc (j + 1) v (by simpa [flts] using hv)
            rw [show o + 1 + j = o + (j + 1) by omega]
            exact this
          · rcases List.mem_append.1 hy with hy | hy
            · exact HR.out.2.2 y hy
            · rw [List.mem_singleton.1 hy]
              exact of_decide_eq_true HG.out.1.symm
end Go.Proofs.Ytncpdjlladlalaa
