/- The walks of the laws' looks at points: zzFits4, tSome, SamePoint. Conditions: as each says. -/
import Derived.Test.YtmeooadgdagiiaaTbFl
import Derived.IntWalk
namespace Go.Proofs.Ytmeooadgdagiiaa
open Go.RowKit Lox
set_option linter.unusedVariables false
attribute [local go_sem] run_store_flt

/-- A list of points that came in. -/
structure RR where
  A : Option Addr
  c : Nat
  ps : List TP

def RR.v (x : RR) : Value := .slice x.A x.ps.length x.c
def RR.Ok (w : World) (x : RR) : Prop := Sl w x.A x.ps.length 1 (x.ps.map TP.v) ∧ (∀ p ∈ x.ps, p.Rd w) ∧ x.ps.length ≤ 9223372036854775807

theorem RR.Ok.mod {w w' : World} {x : RR} (h : x.Ok w) (hm : Mod (fun _ => False) w w') : x.Ok w' := ⟨h.1.mod hm, fun p hp => (h.2.1 p hp).mod hm, h.2.2⟩

/-- What a look at lengths tells. -/
def FitsTold (x : RR) (w : World) (e : Ending) (w' : World) : Prop :=
  ∃ b, e = .returned (.bool b) ∧ w = w' ∧ (b = true → x.ps.length ≤ 2147483647 ∧ ∀ p ∈ x.ps, p.xs.length ≤ 2147483647)

set_option maxHeartbeats 1000000 in
theorem fits4_any (x : RR) (w : World) (h : x.Ok w) : Calls Try.prog 8 #[x.v] w (FitsTold x w) := by
  obtain ⟨A, c, ps⟩ := x
  obtain ⟨m, hm⟩ : ∃ m, ps.length = m := ⟨_, rfl⟩
  have hml : m ≤ 9223372036854775807 := by rw [← hm]; exact h.2.2
  have HH := Lib.hid (And.intro h hm)
  have e : (RR.mk A c ps).v = .slice A m c := by rw [← hm]; rfl
  rw [e]
  clear h hm e
  go_enter Try.func8, Try.ntmps8
  by_cases hn : 2147483647 < m
  · go_wp2
    go_ret
    exact ⟨_, rfl, rfl, fun h => by cases h⟩
  · go_wp2
    go_loop [10] (fun i => ∃ k : Nat, k ≤ m ∧ i = .int .i64 k ∧ Hid (∀ p ∈ ps.take k, p.xs.length ≤ 2147483647)) (fun i => m - (intOf i).toNat)
    case atStart => exact ⟨0, Nat.zero_le _, rfl, by show ∀ p ∈ ps.take 0, _; simp⟩
    case round =>
      obtain ⟨k, hk, rfl, HR⟩ := hrel
      by_cases hlt : k < m
      · have hsl : Sl w A m 1 (ps.map TP.v) := by rw [← HH.out.2]; exact HH.out.1.1
        obtain ⟨b, o, v, e1, e2, c1⟩ := hsl.at1 hlt
        have hk2 : k < ps.length := by rw [HH.out.2]; exact hlt
        obtain ⟨p, ep⟩ : ∃ p, p = ps[k] := ⟨_, rfl⟩
        have e3 : (ps.map TP.v)[k]? = some p.v := by rw [ep]; simp [hk2]
        rw [e3] at e2
        cases e2
        have HTK : Hid (ps.take (k + 1) = ps.take k ++ [p]) := by show _ = _; rw [List.take_succ_eq_append_getElem hk2, ep]
        obtain ⟨q, hq⟩ : ∃ q, p.xs.length = q := ⟨_, rfl⟩
        have c2 : w.cell? ⟨b, o + k, none⟩ = some (.slice p.A q p.c) := by rw [← hq]; exact c1
        have hql : q ≤ 9223372036854775807 := by rw [← hq]; exact (HH.out.1.2.1 p (by rw [ep]; exact List.getElem_mem hk2)).2
        have HQ := Lib.hid hq
        subst e1
        clear c1 e3 ep hk2 hq hsl
        by_cases hbig : 2147483647 < q
        · go_wp2
          go_ret
          exact ⟨_, rfl, rfl, fun h => by cases h⟩
        · go_wp2
          go_round
          case rel =>
            refine ⟨k + 1, by omega, by go_num, ?_⟩
            show ∀ p ∈ ps.take (k + 1), _
            rw [HTK.out]
            intro z hz
            rcases List.mem_append.1 hz with h | h
            · exact HR.out z h
            · rw [List.mem_singleton.1 h, HQ.out]; omega
          case measure => simp [intOf]; omega
      · obtain rfl : k = m := by omega
        go_wp2
        go_ret
        refine ⟨_, rfl, rfl, fun _ => ⟨by rw [HH.out.2]; omega, ?_⟩⟩
        have := HR.out
        rw [List.take_of_length_le (by rw [HH.out.2]; exact Nat.le_refl _)] at this
        exact this

set_option maxHeartbeats 1000000 in
theorem same_yes (A B : Option Addr) (n c c' : Nat) (xs : List Nat) (w : World) (ha : Sl w A n 1 (flts xs)) (hb : Sl w B n 1 (flts xs)) (hn : n ≤ 9223372036854775807) (hx : ∀ x ∈ xs, Num x) :
    Calls Try.prog 15 #[.slice A n c, .slice B n c'] w fun e w' => e = .returned (.bool true) ∧ w = w' := by
  have hl : xs.length = n := by have := ha.1; simpa [flts] using this
  go_enter Try.func15, Try.ntmps15
  go_wp2
  go_loop [14] (fun i => ∃ k : Nat, k ≤ n ∧ i = .int .i64 k) (fun i => n - (intOf i).toNat)
  case atStart => exact ⟨0, Nat.zero_le _, rfl⟩
  case round =>
    obtain ⟨k, hk, rfl⟩ := hrel
    by_cases hlt : k < n
    · obtain ⟨b, o, v, e1, e2, c1⟩ := ha.at1 hlt
      obtain ⟨b', o', v', e3, e4, c2⟩ := hb.at1 hlt
      rw [e2] at e4
      cases e4
      have hk2 : k < xs.length := by omega
      rw [flts_getD hk2] at e2
      cases e2
      have hxx : FloatKind.f64.format.order (xs.getD k 0) (xs.getD k 0) = some .eq := (hx _ (by simp [hk2])).self
      obtain ⟨x, ex⟩ : ∃ x, x = xs.getD k 0 := ⟨_, rfl⟩
      rw [← ex] at c1 c2 hxx
      clear ex hk2 ha hb hx
      subst e1 e3
      go_wp2
      go_round
      case rel => exact ⟨k + 1, by omega, by go_num⟩
      case measure => simp [intOf]; omega
    · obtain rfl : k = n := by omega
      go_wp2
      go_ret
      exact ⟨rfl, rfl⟩

/-- How many points there are in some lists. -/
def many (ls : List RR) : Nat := (ls.map fun x => x.ps.length).sum

/-- What the laws' look at points tells. -/
def SomeTold (dims : Int) (ls : List RR) (pk : List Int) (w : World) (e : Ending) (w' : World) : Prop :=
  w = w' ∧ ∃ b, e = .returned (.bool b) ∧ (b = true → (∀ x ∈ ls, (∀ p ∈ x.ps, (p.xs.length : Int) = dims ∧ ∀ y ∈ p.xs, ∃ n, Wh y n) ∧ 0 < dims) ∧ dims ≤ 4 ∧ many ls ≤ 120 ∧ pk.length ≤ 80 ∧ ∀ k ∈ pk, 0 ≤ k)

theorem some_no {dims : Int} {ls : List RR} {pk : List Int} {w : World} : SomeTold dims ls pk w (.returned (.bool false)) w := ⟨rfl, false, rfl, fun h => by cases h⟩

set_option maxHeartbeats 4000000 in
theorem some_at (L P : Option Addr) (m cl nk cp : Nat) (dims : Int) (ls : List RR) (pk : List Int) (w : World) (hL : Sl w L m 1 (ls.map RR.v)) (hm : m ≤ 10) (hls : ∀ x ∈ ls, x.Ok w ∧ x.ps.length ≤ 2147483647) (hP : Sl w P nk 1 (ints pk)) (hnk : nk ≤ 2147483647) :
    Calls Try.prog 9 #[.int .i64 dims, .float .f64 4697254411347427328, .slice P nk cp, .slice L m cl] w (SomeTold dims ls pk w) := by
  have hll : ls.length = m := by have := hL.1; simpa using this
  have hpl : pk.length = nk := by have := hP.1; simpa [ints] using this
  have HH := Lib.hid (And.intro hL (And.intro hls (And.intro hP (And.intro hll hpl))))
  clear hL hls hP hll hpl
  go_enter Try.func9, Try.ntmps9
  go_wp2
  go_loop [9, 16] (fun n i => ∃ k s : Nat, k ≤ m ∧ s ≤ k * 2147483647 ∧ n = .int .i64 s ∧ i = .int .i64 k ∧ Hid (s = many (ls.take k) ∧ ∀ x ∈ ls.take k, (∀ p ∈ x.ps, (p.xs.length : Int) = dims ∧ ∀ y ∈ p.xs, ∃ n, Wh y n) ∧ 0 < dims)) (fun _ i => m - (intOf i).toNat)
  case atStart => exact ⟨0, 0, Nat.zero_le _, by omega, rfl, rfl, by simp [many], by simp⟩
  case round =>
    obtain ⟨k, s, hk, hs, rfl, rfl, HR⟩ := hrel
    by_cases hlt : k < m
    · obtain ⟨b, o, v, e1, e2, c1⟩ := HH.out.1.at1 hlt
      have hk2 : k < ls.length := by rw [HH.out.2.2.2.1]; exact hlt
      obtain ⟨x, ex⟩ : ∃ x, x = ls[k] := ⟨_, rfl⟩
      have e3 : (ls.map RR.v)[k]? = some x.v := by rw [ex]; simp [hk2]
      rw [e3] at e2
      cases e2
      have HTK : Hid (ls.take (k + 1) = ls.take k ++ [x]) := by show _ = _; rw [List.take_succ_eq_append_getElem hk2, ex]
      have hxo := HH.out.2.1 x (by rw [ex]; exact List.getElem_mem hk2)
      obtain ⟨A, c, ps⟩ := x
      obtain ⟨q, hq⟩ : ∃ q, ps.length = q := ⟨_, rfl⟩
      have c2 : w.cell? ⟨b, o + k, none⟩ = some (.slice A q c) := by rw [← hq]; exact c1
      have hql : q ≤ 2147483647 := by rw [← hq]; exact hxo.2
      have HX : Hid (Sl w A q 1 (ps.map TP.v) ∧ (∀ p ∈ ps, p.Rd w) ∧ ps.length = q) := ⟨by rw [← hq]; exact hxo.1.1, hxo.1.2.1, hq⟩
      subst e1
      clear c1 e3 ex hk2 hq hxo
      have hadd : IntKind.i64.wrap ((s : Int) + (q : Int)) = (s : Int) + (q : Int) := IntWalk.i64_in _ (by omega)
      go_wp2_with (go_at_call 27; refine (grid_any A q c ps dims _ HX.out.1 (by omega) HX.out.2.1).mono ?_; rintro _ _ ⟨rfl, g, rfl, hg⟩; have HG := Lib.hid hg; clear hg)
      all_goals first
        | (go_ret; exact some_no)
        | (have hgt : g = true := (by first | rfl | assumption | (have h : (!g) = false := (by assumption); simpa using h))
           go_round
           case rel =>
             refine ⟨k + 1, s + q, by omega, by omega, by go_num, by go_num, ?_, ?_⟩
             · rw [HTK.out, HR.out.1]
               simp [many, HX.out.2.2]
             · rw [HTK.out]
               intro z hz
               rcases List.mem_append.1 hz with h | h
               · exact HR.out.2 z h
               · rw [List.mem_singleton.1 h]; exact HG.out hgt
           case measure => simp [intOf]; omega)
    · obtain rfl : k = m := by omega
      have hr1 := HR.out.1
      have hr2 := HR.out.2
      rw [List.take_of_length_le (by rw [HH.out.2.2.2.1]; exact Nat.le_refl _)] at hr1 hr2
      have HR2 := Lib.hid (And.intro hr1 hr2)
      clear hr1 hr2 HR
      go_wp2
      go_loop [32] (fun i => ∃ j : Nat, j ≤ nk ∧ i = .int .i64 j ∧ Hid (∀ x ∈ pk.take j, 0 ≤ x)) (fun i => nk - (intOf i).toNat)
      case atStart => exact ⟨0, Nat.zero_le _, rfl, by show ∀ x ∈ pk.take 0, _; simp⟩
      case round =>
        obtain ⟨j, hj, rfl, HJ⟩ := hrel
        by_cases hlj : j < nk
        · obtain ⟨b, o, v, e1, e2, c1⟩ := HH.out.2.2.1.at1 hlj
          have hj2 : j < pk.length := by rw [HH.out.2.2.2.2]; exact hlj
          obtain ⟨x, ex⟩ : ∃ x, x = pk[j] := ⟨_, rfl⟩
          rw [ints_at (x := x) (by rw [ex]; exact List.getElem?_eq_getElem hj2)] at e2
          cases e2
          have HTK : Hid (pk.take (j + 1) = pk.take j ++ [x]) := by show _ = _; rw [List.take_succ_eq_append_getElem hj2, ex]
          subst e1
          clear ex hj2
          by_cases hx0 : x < 0
          · go_wp2
            go_ret
            exact some_no
          · go_wp2
            go_round
            case rel =>
              refine ⟨j + 1, by omega, by go_num, ?_⟩
              show ∀ x ∈ pk.take (j + 1), _
              rw [HTK.out]
              intro z hz
              rcases List.mem_append.1 hz with h | h
              · exact HJ.out z h
              · rw [List.mem_singleton.1 h]; omega
            case measure => simp [intOf]; omega
        · obtain rfl : j = nk := by omega
          have hj1 := HJ.out
          rw [List.take_of_length_le (by rw [HH.out.2.2.2.2]; exact Nat.le_refl _)] at hj1
          have HJ1 := Lib.hid hj1
          clear hj1 HJ
          by_cases h4 : dims ≤ 4
          · by_cases h5 : (s : Int) ≤ 120
            · by_cases h6 : (j : Int) ≤ 80
              · have d1 : decide (dims ≤ 4) = true := decide_eq_true h4
                have d2 : decide ((s : Int) ≤ 120) = true := decide_eq_true h5
                have d3 : decide ((j : Int) ≤ 80) = true := decide_eq_true h6
                go_wp2
                go_ret
                exact ⟨rfl, _, rfl, fun _ => ⟨HR2.out.2, h4, by rw [← HR2.out.1]; omega, by rw [HH.out.2.2.2.2]; omega, HJ1.out⟩⟩
              · have d1 : decide (dims ≤ 4) = true := decide_eq_true h4
                have d2 : decide ((s : Int) ≤ 120) = true := decide_eq_true h5
                have d3 : decide ((j : Int) ≤ 80) = false := decide_eq_false h6
                go_wp2
                go_ret
                exact some_no
            · have d1 : decide (dims ≤ 4) = true := decide_eq_true h4
              have d2 : decide ((s : Int) ≤ 120) = false := decide_eq_false h5
              go_wp2
              go_ret
              exact some_no
          · have d1 : decide (dims ≤ 4) = false := decide_eq_false h4
            go_wp2
            go_ret
            exact some_no
end Go.Proofs.Ytmeooadgdagiiaa
