/- Steps of a proof, one behind another: The walks of the laws' looks at points: zzFits4, tSome, SamePoint. Slices of rows of numbers, each row in a block of its own. The walk of the copy of the points that a k-d tree is built of. The walk of tAll. Float distances of whole squares: their order is the squares' order. The walk of the distance between points of whole numbers within 1024, rounded. The arrays that a vantage-point tree is built with: the points, as interface values, and the distances. The walk of the copy of the points that a vantage-point tree is built of. sort.Sort over ANY receiver (whatever its rows are): what its functions ask of it; the walk of sort.insertionSort. The literal 308 is this seat's number of types and 100. Conditions: as each theorem says. -/
import Derived.Test.YtpamoleocjdjiaaDoorMv3
import Derived.IntWalk
import Derived.Deep.AppendLies
import Derived.BigQuiet
import Derived.BigRegion
import Derived.Test.YtpamoleocjdjiaaDoorRows
import Derived.WalkKit
import Derived.Sort.WalkA
import Derived.Sort.AssemblyPlain
import Derived.Deep.LoopGhost
import Derived.Shelf.Abstract

namespace Go.Proofs.YtpamoleocjdjiaaDoor
open Go.RowKit Lox
set_option linter.unusedVariables false
attribute [local go_sem] run_store_flt

/-- A list of points that came in. -/
structure RR where
  A : Option Addr
  c : Nat
  ps : List TP

def RR.v (x : RR) : Value := .slice x.A x.ps.length x.c
def RR.Ok (w : World) (x : RR) : Prop := Sl w x.A x.ps.length 1 (x.ps.map TP.v) ∧ (∀ p ∈ x.ps, p.Rd w) ∧ x.ps.length ≤ 9223372036854775807

theorem RR.Ok.mod {w w' : World} {x : RR} (h : x.Ok w) (hm : Mod (fun _ => False) w w') : x.Ok w' := ⟨h.1.mod hm, fun p hp => (h.2.1 p hp).mod hm, h.2.2⟩

/-- What a look at lengths tells. -/
def FitsTold (x : RR) (w : World) (e : Ending) (w' : World) : Prop :=
  ∃ b, e = .returned (.bool b) ∧ w = w' ∧ (b = true → x.ps.length ≤ 2147483647 ∧ ∀ p ∈ x.ps, p.xs.length ≤ 2147483647)

set_option maxHeartbeats 1000000 in
theorem fits4_any (x : RR) (w : World) (h : x.Ok w) : Calls Tryd.prog 6 #[x.v] w (FitsTold x w) := by
  obtain ⟨A, c, ps⟩ := x
  obtain ⟨m, hm⟩ : ∃ m, ps.length = m := ⟨_, rfl⟩
  have hml : m ≤ 9223372036854775807 := by rw [← hm]; exact h.2.2
  have HH := Lib.hid (And.intro h hm)
  have e : (RR.mk A c ps).v = .slice A m c := by rw [← hm]; rfl
  rw [e]
  clear h hm e
  go_enter Tryd.func6, Tryd.ntmps6
  by_cases hn : 2147483647 < m
  · go_wp2
    go_ret
    exact ⟨_, rfl, rfl, fun h => by cases h⟩
  · go_wp2
    go_loop [10] (fun i => ∃ k : Nat, k ≤ m ∧ i = .int .i64 k ∧ Hid (∀ p ∈ ps.take k, p.xs.length ≤ 2147483647)) (fun i => m - (intOf i).toNat)
    case atStart => exact ⟨0, Nat.zero_le _, rfl, by show ∀ p ∈ ps.take 0, _; simp⟩
    case round =>
      obtain ⟨k, hk, rfl, HR⟩ := hrel
      by_cases hlt : k < m
      · have hsl : Sl w A m 1 (ps.map TP.v) := by rw [← HH.out.2]; exact HH.out.1.1
        obtain ⟨b, o, v, e1, e2, c1⟩ := hsl.at1 hlt
        have hk2 : k < ps.length := by rw [HH.out.2]; exact hlt
        obtain ⟨p, ep⟩ : ∃ p, p = ps[k] := ⟨_, rfl⟩
        have e3 : (ps.map TP.v)[k]? = some p.v := by rw [ep]; simp [hk2]
        rw [e3] at e2
        cases e2
        have HTK : Hid (ps.take (k + 1) = ps.take k ++ [p]) := by show _ = _; rw [List.take_succ_eq_append_getElem hk2, ep]
        obtain ⟨q, hq⟩ : ∃ q, p.xs.length = q := ⟨_, rfl⟩
        have c2 : w.cell? ⟨b, o + k, none⟩ = some (.slice p.A q p.c) := by rw [← hq]; exact c1
        have hql : q ≤ 9223372036854775807 := by rw [← hq]; exact (HH.out.1.2.1 p (by rw [ep]; exact List.getElem_mem hk2)).2
        have HQ := Lib.hid hq
        subst e1
        clear c1 e3 ep hk2 hq hsl
        by_cases hbig : 2147483647 < q
        · go_wp2
          go_ret
          exact ⟨_, rfl, rfl, fun h => by cases h⟩
        · go_wp2
          go_round
          case rel =>
            refine ⟨k + 1, by omega, by go_num, ?_⟩
            show ∀ p ∈ ps.take (k + 1), _
            rw [HTK.out]
            intro z hz
            rcases List.mem_append.1 hz with h | h
            · exact HR.out z h
            · rw [List.mem_singleton.1 h, HQ.out]; omega
          case measure => simp [intOf]; omega
      · obtain rfl : k = m := by omega
        go_wp2
        go_ret
        refine ⟨_, rfl, rfl, fun _ => ⟨by rw [HH.out.2]; omega, ?_⟩⟩
        have := HR.out
        rw [List.take_of_length_le (by rw [HH.out.2]; exact Nat.le_refl _)] at this
        exact this

set_option maxHeartbeats 1000000 in
theorem same_yes (A B : Option Addr) (n c c' : Nat) (xs : List Nat) (w : World) (ha : Sl w A n 1 (flts xs)) (hb : Sl w B n 1 (flts xs)) (hn : n ≤ 9223372036854775807) (hx : ∀ x ∈ xs, Num x) :
    Calls Tryd.prog 46 #[.slice A n c, .slice B n c'] w fun e w' => e = .returned (.bool true) ∧ w = w' := by
  have hl : xs.length = n := by have := ha.1; simpa [flts] using this
  go_enter Tryd.func46, Tryd.ntmps46
  go_wp2
  go_loop [14] (fun i => ∃ k : Nat, k ≤ n ∧ i = .int .i64 k) (fun i => n - (intOf i).toNat)
  case atStart => exact ⟨0, Nat.zero_le _, rfl⟩
  case round =>
    obtain ⟨k, hk, rfl⟩ := hrel
    by_cases hlt : k < n
    · obtain ⟨b, o, v, e1, e2, c1⟩ := ha.at1 hlt
      obtain ⟨b', o', v', e3, e4, c2⟩ := hb.at1 hlt
      rw [e2] at e4
      cases e4
      have hk2 : k < xs.length := by omega
      rw [flts_getD hk2] at e2
      cases e2
      have hxx : FloatKind.f64.format.order (xs.getD k 0) (xs.getD k 0) = some .eq := (hx _ (by simp [hk2])).self
      obtain ⟨x, ex⟩ : ∃ x, x = xs.getD k 0 := ⟨_, rfl⟩
      rw [← ex] at c1 c2 hxx
      clear ex hk2 ha hb hx
      subst e1 e3
      go_wp2
      go_round
      case rel => exact ⟨k + 1, by omega, by go_num⟩
      case measure => simp [intOf]; omega
    · obtain rfl : k = n := by omega
      go_wp2
      go_ret
      exact ⟨rfl, rfl⟩

/-- How many points there are in some lists. -/
def many (ls : List RR) : Nat := (ls.map fun x => x.ps.length).sum

/-- What the laws' look at points tells. -/
def SomeTold (dims : Int) (ls : List RR) (pk : List Int) (w : World) (e : Ending) (w' : World) : Prop :=
  w = w' ∧ ∃ b, e = .returned (.bool b) ∧ (b = true → (∀ x ∈ ls, (∀ p ∈ x.ps, (p.xs.length : Int) = dims ∧ ∀ y ∈ p.xs, ∃ n, Wh y n) ∧ 0 < dims) ∧ dims ≤ 4 ∧ many ls ≤ 120 ∧ pk.length ≤ 80 ∧ ∀ k ∈ pk, 0 ≤ k)

theorem some_no {dims : Int} {ls : List RR} {pk : List Int} {w : World} : SomeTold dims ls pk w (.returned (.bool false)) w := ⟨rfl, false, rfl, fun h => by cases h⟩

set_option maxHeartbeats 4000000 in
theorem some_at (L P : Option Addr) (m cl nk cp : Nat) (dims : Int) (ls : List RR) (pk : List Int) (w : World) (hL : Sl w L m 1 (ls.map RR.v)) (hm : m ≤ 10) (hls : ∀ x ∈ ls, x.Ok w ∧ x.ps.length ≤ 2147483647) (hP : Sl w P nk 1 (ints pk)) (hnk : nk ≤ 2147483647) :
    Calls Tryd.prog 7 #[.int .i64 dims, .float .f64 4652218415073722368, .slice P nk cp, .slice L m cl] w (SomeTold dims ls pk w) := by
  have hll : ls.length = m := by have := hL.1; simpa using this
  have hpl : pk.length = nk := by have := hP.1; simpa [ints] using this
  have HH := Lib.hid (And.intro hL (And.intro hls (And.intro hP (And.intro hll hpl))))
  clear hL hls hP hll hpl
  go_enter Tryd.func7, Tryd.ntmps7
  go_wp2
  go_loop [9, 16] (fun n i => ∃ k s : Nat, k ≤ m ∧ s ≤ k * 2147483647 ∧ n = .int .i64 s ∧ i = .int .i64 k ∧ Hid (s = many (ls.take k) ∧ ∀ x ∈ ls.take k, (∀ p ∈ x.ps, (p.xs.length : Int) = dims ∧ ∀ y ∈ p.xs, ∃ n, Wh y n) ∧ 0 < dims)) (fun _ i => m - (intOf i).toNat)
  case atStart => exact ⟨0, 0, Nat.zero_le _, by omega, rfl, rfl, by simp [many], by simp⟩
  case round =>
    obtain ⟨k, s, hk, hs, rfl, rfl, HR⟩ := hrel
    by_cases hlt : k < m
    · obtain ⟨b, o, v, e1, e2, c1⟩ := HH.out.1.at1 hlt
      have hk2 : k < ls.length := by rw [HH.out.2.2.2.1]; exact hlt
      obtain ⟨x, ex⟩ : ∃ x, x = ls[k] := ⟨_, rfl⟩
      have e3 : (ls.map RR.v)[k]? = some x.v := by rw [ex]; simp [hk2]
      rw [e3] at e2
      cases e2
      have HTK : Hid (ls.take (k + 1) = ls.take k ++ [x]) := by show _ = _; rw [List.take_succ_eq_append_getElem hk2, ex]
      have hxo := HH.out.2.1 x (by rw [ex]; exact List.getElem_mem hk2)
      obtain ⟨A, c, ps⟩ := x
      obtain ⟨q, hq⟩ : ∃ q, ps.length = q := ⟨_, rfl⟩
      have c2 : w.cell? ⟨b, o + k, none⟩ = some (.slice A q c) := by rw [← hq]; exact c1
      have hql : q ≤ 2147483647 := by rw [← hq]; exact hxo.2
      have HX : Hid (Sl w A q 1 (ps.map TP.v) ∧ (∀ p ∈ ps, p.Rd w) ∧ ps.length = q) := ⟨by rw [← hq]; exact hxo.1.1, hxo.1.2.1, hq⟩
      subst e1
      clear c1 e3 ex hk2 hq hxo
      have hadd : IntKind.i64.wrap ((s : Int) + (q : Int)) = (s : Int) + (q : Int) := IntWalk.i64_in _ (by omega)
      go_wp2_with (go_at_call 21; refine (grid_any A q c ps dims _ HX.out.1 (by omega) HX.out.2.1).mono ?_; rintro _ _ ⟨rfl, g, rfl, hg⟩; have HG := Lib.hid hg; clear hg)
      all_goals first
        | (go_ret; exact some_no)
        | (have hgt : g = true := (by first | rfl | assumption | (have h : (!g) = false := (by assumption); simpa using h))
           go_round
           case rel =>
             refine ⟨k + 1, s + q, by omega, by omega, by go_num, by go_num, ?_, ?_⟩
             · rw [HTK.out, HR.out.1]
               simp [many, HX.out.2.2]
             · rw [HTK.out]
               intro z hz
               rcases List.mem_append.1 hz with h | h
               · exact HR.out.2 z h
               · rw [List.mem_singleton.1 h]; exact HG.out hgt
           case measure => simp [intOf]; omega)
    · obtain rfl : k = m := by omega
      have hr1 := HR.out.1
      have hr2 := HR.out.2
      rw [List.take_of_length_le (by rw [HH.out.2.2.2.1]; exact Nat.le_refl _)] at hr1 hr2
      have HR2 := Lib.hid (And.intro hr1 hr2)
      clear hr1 hr2 HR
      go_wp2
      go_loop [32] (fun i => ∃ j : Nat, j ≤ nk ∧ i = .int .i64 j ∧ Hid (∀ x ∈ pk.take j, 0 ≤ x)) (fun i => nk - (intOf i).toNat)
      case atStart => exact ⟨0, Nat.zero_le _, rfl, by show ∀ x ∈ pk.take 0, _; simp⟩
      case round =>
        obtain ⟨j, hj, rfl, HJ⟩ := hrel
        by_cases hlj : j < nk
        · obtain ⟨b, o, v, e1, e2, c1⟩ := HH.out.2.2.1.at1 hlj
          have hj2 : j < pk.length := by rw [HH.out.2.2.2.2]; exact hlj
          obtain ⟨x, ex⟩ : ∃ x, x = pk[j] := ⟨_, rfl⟩
          rw [ints_at (x := x) (by rw [ex]; exact List.getElem?_eq_getElem hj2)] at e2
          cases e2
          have HTK : Hid (pk.take (j + 1) = pk.take j ++ [x]) := by show _ = _; rw [List.take_succ_eq_append_getElem hj2, ex]
          subst e1
          clear ex hj2
          by_cases hx0 : x < 0
          · go_wp2
            go_ret
            exact some_no
          · go_wp2
            go_round
            case rel =>
              refine ⟨j + 1, by omega, by go_num, ?_⟩
              show ∀ x ∈ pk.take (j + 1), _
              rw [HTK.out]
              intro z hz
              rcases List.mem_append.1 hz with h | h
              · exact HJ.out z h
              · rw [List.mem_singleton.1 h]; omega
            case measure => simp [intOf]; omega
        · obtain rfl : j = nk := by omega
          have hj1 := HJ.out
          rw [List.take_of_length_le (by rw [HH.out.2.2.2.2]; exact Nat.le_refl _)] at hj1
          have HJ1 := Lib.hid hj1
          clear hj1 HJ
          by_cases h4 : dims ≤ 4
          · by_cases h5 : (s : Int) ≤ 120
            · by_cases h6 : (j : Int) ≤ 80
              · have d1 : decide (dims ≤ 4) = true := decide_eq_true h4
                have d2 : decide ((s : Int) ≤ 120) = true := decide_eq_true h5
                have d3 : decide ((j : Int) ≤ 80) = true := decide_eq_true h6
                go_wp2
                go_ret
                exact ⟨rfl, _, rfl, fun _ => ⟨HR2.out.2, h4, by rw [← HR2.out.1]; omega, by rw [HH.out.2.2.2.2]; omega, HJ1.out⟩⟩
              · have d1 : decide (dims ≤ 4) = true := decide_eq_true h4
                have d2 : decide ((s : Int) ≤ 120) = true := decide_eq_true h5
                have d3 : decide ((j : Int) ≤ 80) = false := decide_eq_false h6
                go_wp2
                go_ret
                exact some_no
            · have d1 : decide (dims ≤ 4) = true := decide_eq_true h4
              have d2 : decide ((s : Int) ≤ 120) = false := decide_eq_false h5
              go_wp2
              go_ret
              exact some_no
          · have d1 : decide (dims ≤ 4) = false := decide_eq_false h4
            go_wp2
            go_ret
            exact some_no
end Go.Proofs.YtpamoleocjdjiaaDoor

namespace Lox
open Go Go.RowKit

theorem Mod.grownBy {w w' : World} (h : Mod (fun _ => False) w w') : w.grownBy w' none :=
  ⟨h.os, h.tape, h.output, h.size, fun k hk _ => h.block k hk (fun h => h)⟩

theorem owns_ne {w : World} {B : Nat} {e T : TypeId} {size : Nat} {v : Value} {n : Nat} {xs ys : List Value} {g : Nat}
    (h : w.ownsRow B e size v n xs) (hb : Blk w g T ys) (hne : T ≠ e) : v.ownBlock ≠ some g := by
  intro hv
  rcases h.2 with ⟨rfl, _⟩ | ⟨g', cap, cur, rfl, _, hg, _⟩
  · simp [Value.ownBlock] at hv
  · simp only [Value.ownBlock, Option.some.injEq] at hv
    subst hv
    unfold Blk at hb
    rw [hb] at hg
    simp at hg
    exact hne hg.2

theorem owns_keep {w w' : World} {B : Nat} {e : TypeId} {size : Nat} {v : Value} {n : Nat} {xs : List Value}
    (h : w.ownsRow B e size v n xs) (hk : ∀ k, B ≤ k → k < w.heap.size → w'.heap[k]? = w.heap[k]?) : w'.ownsRow B e size v n xs := by
  refine ⟨h.1, ?_⟩
  rcases h.2 with hn | ⟨g, cap, cur, rfl, hb, hgg, rest⟩
  · exact .inl hn
  · exact .inr ⟨g, cap, cur, rfl, hb, by rw [hk g hb (Array.getElem?_eq_some_iff.1 hgg).1]; exact hgg, rest⟩

theorem Blk.keep {w w' : World} {B b : Nat} {T : TypeId} {xs : List Value} (h : Blk w b T xs) (hB : B ≤ b)
    (hk : ∀ k, B ≤ k → k < w.heap.size → w'.heap[k]? = w.heap[k]?) : Blk w' b T xs := by
  have := hk b hB h.lt
  unfold Blk at *
  rw [this, h]

/-- Each of these blocks is a row of numbers of its own. -/
def Each (T : TypeId) (B : Nat) (w : World) (gs : List Nat) (ps : List (List Int)) : Prop :=
  gs.length = ps.length ∧ ∀ (i g : Nat) (p : List Int), (gs[i]? : Option Nat) = some g → (ps[i]? : Option (List Int)) = some p → B ≤ g ∧ Blk w g T (ints p)

theorem Each.nil (T : TypeId) (B : Nat) (w : World) : Each T B w [] [] := ⟨rfl, fun i g p h => by simp at h⟩

theorem Each.keep {T : TypeId} {B : Nat} {w w' : World} {gs : List Nat} {ps : List (List Int)} (h : Each T B w gs ps)
    (hk : ∀ k, B ≤ k → k < w.heap.size → w'.heap[k]? = w.heap[k]?) : Each T B w' gs ps :=
  ⟨h.1, fun i g p hg hp => ⟨(h.2 i g p hg hp).1, (h.2 i g p hg hp).2.keep (h.2 i g p hg hp).1 hk⟩⟩

theorem Each.grown {T : TypeId} {B : Nat} {w w' : World} {gs : List Nat} {ps : List (List Int)} {row : Option Nat} (h : Each T B w gs ps)
    (hg : w.grownBy w' row) (hne : ∀ g ys, Blk w g T ys → row ≠ some g) : Each T B w' gs ps :=
  ⟨h.1, fun i g p hg' hp => ⟨(h.2 i g p hg' hp).1, (h.2 i g p hg' hp).2.grown hg (fun e => hne g _ (h.2 i g p hg' hp).2 e.symm)⟩⟩

theorem Each.snoc {T : TypeId} {B : Nat} {w : World} {gs : List Nat} {ps : List (List Int)} {g : Nat} {p : List Int} (h : Each T B w gs ps)
    (hg : B ≤ g) (hb : Blk w g T (ints p)) : Each T B w (gs ++ [g]) (ps ++ [p]) := by
  refine ⟨by simp [h.1], fun i g' p' hg' hp' => ?_⟩
  rcases Nat.lt_or_ge i gs.length with hi | hi
  · rw [List.getElem?_append_left hi] at hg'
    rw [List.getElem?_append_left (by rw [← h.1]; exact hi)] at hp'
    exact h.2 i g' p' hg' hp'
  · rw [List.getElem?_append_right hi] at hg'
    rw [List.getElem?_append_right (by rw [← h.1]; exact hi)] at hp'
    have h0 : i - gs.length = 0 := by
      rcases Nat.eq_zero_or_pos (i - gs.length) with h0 | h0
      · exact h0
      · rw [List.getElem?_eq_none (by simp; omega)] at hg'; cases hg'
    rw [h0] at hg'
    rw [← h.1, h0] at hp'
    simp at hg' hp'
    subst hg' hp'
    exact ⟨hg, hb⟩

/-- A slice of rows, each of d numbers and of a block of its own, all of them made from B on. -/
def RowsOf (T ST : TypeId) (d B : Nat) (w : World) (v : Value) (ps : List (List Int)) : Prop :=
  ∃ gs, Each T B w gs ps ∧ w.ownsRow B ST 1 v ps.length (gs.map fun g => .slice (some ⟨g, 0, none⟩) d d)
end Lox
namespace Lox
open Go Go.RowKit

/-- What a slice of rows is, written out: its block, and of each place the row's block and numbers. -/
theorem RowsOf.laid {T ST : TypeId} {d B : Nat} {w : World} {v : Value} {ps : List (List Int)} (h : RowsOf T ST d B w v ps) (hn : 0 < ps.length) :
    ∃ (b cap : Nat) (gs : List Nat), v = .slice (some ⟨b, 0, none⟩) ps.length cap ∧ B ≤ b ∧ b < w.heap.size ∧ gs.length = ps.length ∧
      ∀ i, i < ps.length → w.cell? ⟨b, i, none⟩ = some (.slice (some ⟨gs.getD i 0, 0, none⟩) d d) ∧ Blk w (gs.getD i 0) T (ints (ps.getD i [])) := by
  obtain ⟨gs, hE, hown⟩ := h
  rcases hown.2 with ⟨_, h0⟩ | ⟨g, cap, cur, rfl, hb, hg, hc⟩
  · omega
  · refine ⟨g, cap, gs, rfl, hb, (Array.getElem?_eq_some_iff.1 hg).1, hE.1, fun i hi => ⟨?_, ?_⟩⟩
    · have hlen : i < gs.length := by rw [hE.1]; exact hi
      have := hown.cells (g := g) rfl i (.slice (some ⟨gs.getD i 0, 0, none⟩) d d) (by simp [hlen])
      simpa [Addr.add_lit] using this
    · have hlen : i < gs.length := by rw [hE.1]; exact hi
      exact (hE.2 i _ _ (by simp [hlen]) (by simp [hi])).2
end Lox

namespace Go.Proofs.YtpamoleocjdjiaaDoor
open Go.RowKit Lox
set_option linter.unusedVariables false
attribute [local go_sem] run_store_flt run_store_fn

/-- Points that came in, as a row of rows. -/
def PRows (w : World) (O : Option Addr) (n : Nat) (ps : List TP) (dims : Nat) : Prop := Sl w O n 1 (ps.map TP.v) ∧ (∀ p ∈ ps, p.Rd w ∧ p.xs.length = dims)

theorem PRows.mod {w w' : World} {O : Option Addr} {n dims : Nat} {ps : List TP} (h : PRows w O n ps dims) (hm : Mod (fun _ => False) w w') : PRows w' O n ps dims := ⟨h.1.mod hm, fun p hp => ⟨(h.2 p hp).1.mod hm, (h.2 p hp).2⟩⟩

theorem PRows.len {w : World} {O : Option Addr} {n dims : Nat} {ps : List TP} (h : PRows w O n ps dims) : ps.length = n := by have := h.1.1; simpa using this

theorem own_block {w : World} {B e size n : Nat} {v : Value} {xs : List Value} (h : w.ownsRow B e size v n xs) {b : Nat} (hb : v.ownBlock = some b) : B ≤ b ∧ b < w.heap.size := by
  rcases h.2 with ⟨rfl, h0⟩ | ⟨g, cap, cur, e1, hB, hg, hc⟩
  · cases hb
  · subst e1
    have hb : some g = some b := hb
    injection hb with hb
    subst hb
    exact ⟨hB, (Array.getElem?_eq_some_iff.1 hg).1⟩

end Go.Proofs.YtpamoleocjdjiaaDoor

namespace Lox
open Go Go.RowKit
set_option linter.unusedVariables false

theorem run_append_none {P : Program} (w : World) (t ty e : TypeId) (i : TypeInfo) (base size n c : Nat) (v : Value) (xs : List Value) (ht : P.underlying t = some (.slice e)) (hi : P.info? e = some i) (hown : w.ownsRow base e size v n xs) :
    (Builtin.append_ #[t, t] ty #[v, .slice none 0 c]).run P w = .ok v w := by
  rcases hown.2 with ⟨rfl, h0⟩ | ⟨g, cap, cur, rfl, hB, hg, hc, hcm, hsz, htk⟩
  · simp [Builtin.append_, run_underlying ht, Go.sizeOf, typeInfo, hi, Builtin.lenOf, Builtin.firstCells]
  · have hst : (storeCells ((⟨g, 0, none⟩ : Addr).add (n * i.size)) []).run P w = .ok () w := rfl
    simp [Builtin.append_, run_underlying ht, Go.sizeOf, typeInfo, hi, Builtin.lenOf, Builtin.firstCells, hc, hst]

theorem wpList_append_opt {P : Program} (w : World) {ops : Array Oper} {rest : List Oper} {o : Oper} {a : Act} {Q : Exit → Act → World → Prop} (hgd : o.guard = none) (s x : Operand) (t : TypeId)
    (ho : o.op = .call { callee := .builtin .append, args := #[s, x], argTypes := #[t, t] })
    (base : Nat) (e : TypeId) (i : TypeInfo) (z : Value) (bytes : Nat) (ht : P.underlying t = some (.slice e)) (hi : P.info? e = some i) (hz : i.zero = some z)
    (hsize : i.size = 1) (hby : i.bytes = bytes) (hzs : z.cells.size = 1)
    (v : Value) (n : Nat) (xs : List Value) (hs : a.eval s = v) (hown : w.ownsRow base e 1 v n xs)
    (X : Option Addr) (m c : Nat) (news : List Value) (hx : a.eval x = .slice X m c) (hnews : Sl w X m 1 news) (h1 : ∀ u ∈ news, u.oneCell' = true)
    (h63 : n + m ≤ maxLen) (hbytes : (n + m) * bytes ≤ 140737488355328) (hbase : base ≤ w.heap.size)
    (h : ∀ v' w', w'.ownsRow base e 1 v' (n + m) (xs ++ news) → w.grownBy w' v.ownBlock → wpList P ops Q rest (a.put o.dst v') w') : wpList P ops Q (o :: rest) a w := by
  cases X with
  | none =>
    obtain rfl : m = 0 := by
      rcases Nat.eq_zero_or_pos m with h0 | h0
      · exact h0
      · obtain ⟨_, _, h, _⟩ := hnews.2 h0
        cases h
    obtain rfl : news = [] := List.length_eq_zero_iff.1 (by have := hnews.1; omega)
    refine wpList_plain hgd fun K hK => ?_
    have hr := run_append_none (P := P) w t o.type e i base 1 n c v xs ht hi hown
    unfold Oper.wp execOp
    simp only [ho, resolve, invoke, builtin, Sem.run_bind, Sem.run_pure, Result.andThen_ok, List.map_toArray, List.map_cons, List.map_nil, hs, hx, hr]
    exact hK _ _ (h v w (by rw [Nat.add_zero, List.append_nil]; exact hown) ⟨rfl, rfl, rfl, Nat.le_refl _, fun _ _ _ => rfl⟩)
  | some ad =>
    exact wpList_append_own w hgd s x t ho base e i z 1 bytes ht hi hz hsize hby hzs (by decide) v n xs hs hown ad m c news hx hnews.1 (fun j u hu => by
      obtain ⟨b, o, e, hc⟩ := hnews.2 (by have := hnews.1; have := (List.getElem?_eq_some_iff.1 hu).1; omega)
      cases e
      rw [addr_lit]
      exact hc j u hu) h1 h63 hbytes hbase fun v' w' h2 h3 _ => h v' w' h2 h3
end Lox

namespace Go.Proofs.YtpamoleocjdjiaaDoor
open Go.RowKit Lox
set_option linter.unusedVariables false
attribute [local go_sem] run_store_flt run_store_fn

theorem info_floats : (Tryd.prog.info? 26).map (fun i => (i.zero, i.size, i.bytes)) = some (some (.slice none 0 0), 1, 24) := by kernel_rfl

theorem oneCell_rows {ps : List TP} : ∀ u ∈ ps.map TP.v, u.oneCell' = true := by
  intro u hu
  obtain ⟨p, _, rfl⟩ := List.mem_map.1 hu
  rfl

/-- What tAll tells. -/
def AllTold (ps qs : List TP) (n : Nat) (w : World) (e : Ending) (w' : World) : Prop :=
  ∃ (A : Option Addr) (c : Nat), e = .returned (.slice A n c) ∧ Sl w' A n 1 ((ps ++ qs).map TP.v) ∧ Mod (fun _ => False) w w' ∧ n ≤ 9223372036854775807

theorem own_empty (w : World) (T : TypeId) : (w.alloc (.cells #[] T)).ownsRow w.heap.size T 1 (.slice (some ⟨w.heap.size, 0, none⟩) 0 0) 0 [] :=
  ⟨rfl, .inr ⟨w.heap.size, 0, #[], rfl, Nat.le_refl _, (Blk.new' w #[] T), Nat.le_refl _, by decide, rfl, rfl⟩⟩

theorem own_told {w w' : World} {ps qs : List TP} {v : Value} {n : Nat} (h : w'.ownsRow w.heap.size 26 1 v n ((ps ++ qs).map TP.v)) (hm : Mod (fun _ => False) w w') : AllTold ps qs n w (.returned v) w' := by
  rcases h.2 with ⟨rfl, h0⟩ | ⟨g, cap, cur, rfl, hB, hg, hc, hcm, hsz, ht⟩
  · subst h0
    exact ⟨none, 0, rfl, ⟨by have := h.1; simpa using this, fun h => by omega⟩, hm, by omega⟩
  · refine ⟨_, _, rfl, ⟨h.1, fun _ => ⟨g, 0, rfl, fun j u hu => ?_⟩⟩, hm, by unfold maxLen at hcm; omega⟩
    have := h.cells (g := g) rfl j u hu
    rw [addr_lit] at this
    exact this

theorem all_m1 {w w1 : World} {o : Obj} {n c : Nat} (h : (w.alloc o).grownBy w1 (Value.slice (some ⟨w.heap.size, 0, none⟩) n c).ownBlock) : Mod (fun _ => False) w w1 :=
  ((Mod.refl _ _).alloc _).grown h (fun k e hk => by
    have e : some w.heap.size = some k := e
    injection e with e
    omega)

end Go.Proofs.YtpamoleocjdjiaaDoor

namespace Lox
open Go
set_option linter.unusedVariables false

theorem p2_49 : p2 (-49) = 1 / 562949953421312 := by decide +kernel

/-- The word r is the root of the whole number s, rounded. -/
def Dst (r : Nat) (s : Int) : Prop := Fw r ∧ 0 ≤ vl r ∧ (vl r * vl r - (s : Rat)).abs ≤ (s : Rat) * p2 (-49)

theorem Dst.bds {r : Nat} {s : Int} (h : Dst r s) : (s : Rat) - (s : Rat) * (1 / 562949953421312) ≤ vl r * vl r ∧ vl r * vl r ≤ (s : Rat) + (s : Rat) * (1 / 562949953421312) := by
  have h1 := abs_le_iff.1 h.2.2
  rw [p2_49] at h1
  grind

theorem rat_le {a b : Int} (h : a ≤ b) : (a : Rat) ≤ (b : Rat) := Rat.intCast_le_intCast.2 h

theorem dst_lt {r t : Nat} {a b : Int} (h : Dst r a) (k : Dst t b) (hb : b ≤ 33554432) (h0 : 0 ≤ a) (hab : a < b) : vl r < vl t := by
  have h1 := h.bds.2
  have h2 := k.bds.1
  have h3 := rat_le h0
  have h4 := rat_le hb
  have h5 : ((a + 1 : Int) : Rat) ≤ (b : Rat) := rat_le (by omega)
  rw [Rat.intCast_add] at h5
  refine sq_lt h.2.1 k.2.1 ?_
  have e1 : ((1 : Int) : Rat) = 1 := rfl
  have e2 : ((33554432 : Int) : Rat) = 33554432 := rfl
  have e3 : ((0 : Int) : Rat) = 0 := rfl
  rw [e1] at h5
  rw [e2] at h4
  rw [e3] at h3
  generalize (a : Rat) = A at *
  generalize (b : Rat) = B at *
  generalize vl r * vl r = R at *
  generalize vl t * vl t = T at *
  grind

theorem dst_le {r t : Nat} {a b : Int} (h : Dst r a) (k : Dst t b) (ha : a ≤ 33554432) (h0 : 0 ≤ b) (hr : vl r ≤ vl t) : a ≤ b := by
  rcases (show b < a ∨ a ≤ b by omega) with h1 | h1
  · have := dst_lt k h ha h0 h1
    grind
  · exact h1

theorem dst_zero {r : Nat} (h : Dst r 0) : vl r = 0 := by
  have h1 := h.bds.2
  have h2 := h.2.1
  have e3 : ((0 : Int) : Rat) = 0 := rfl
  rw [e3] at h1
  have h3 : vl r ≤ 0 := sq_le h2 (by grind) (by grind)
  grind

theorem dst_big {r : Nat} {a : Int} (h : Dst r a) (ha : a ≤ 33554432) (h0 : 0 ≤ a) : vl r ≤ 8192 := by
  have h1 := h.bds.2
  have h4 := rat_le ha
  have h3 := rat_le h0
  have e2 : ((33554432 : Int) : Rat) = 33554432 := rfl
  have e3 : ((0 : Int) : Rat) = 0 := rfl
  rw [e2] at h4
  rw [e3] at h3
  refine sq_le h.2.1 (by grind) ?_
  grind

/-- Two roots of one number are near each other. -/
theorem dst_near {r t : Nat} {a : Int} (h : Dst r a) (k : Dst t a) (ha : a ≤ 33554432) (h0 : 0 ≤ a) : vl r - vl t ≤ 1 / 17179869184 := by
  have h1 := h.bds
  have h2 := k.bds
  have h3 := h.2.1
  have h4 := k.2.1
  have h5 := dst_big h ha h0
  have h6 := rat_le h0
  have e3 : ((0 : Int) : Rat) = 0 := rfl
  rw [e3] at h6
  generalize (a : Rat) = A at *
  generalize vl r = x at *
  generalize vl t = y at *
  rcases (Rat.le_total : x - y ≤ 1 / 17179869184 ∨ 1 / 17179869184 ≤ x - y) with h7 | h7
  · exact h7
  · -- (x - y) * x ≤ x * x - y * y, which is at most A * 2 ^ -48
    have h8 : (1 / 17179869184) * x ≤ (x - y) * x := Rat.mul_le_mul_of_nonneg_right h7 h3
    have h9 : 0 ≤ y * (x - y) := Rat.mul_nonneg h4 (by grind)
    have h10 : (x - y) * x ≤ x * x - y * y := by grind
    have h11 : x * x ≤ 8192 * x := Rat.mul_le_mul_of_nonneg_right h5 h3
    grind
end Lox

namespace Lox
open Go Go.RowKit
set_option linter.unusedVariables false

theorem sq_le22 {a : Int} (h : a.natAbs ≤ 2048) : a * a ≤ 4194304 := by
  have e : ((a.natAbs * a.natAbs : Nat) : Int) = a * a := Int.natAbs_mul_self
  have h2 : a.natAbs * a.natAbs ≤ 2048 * 2048 := Nat.mul_le_mul h h
  omega

theorem sqx_le22 (xs ys : List Nat) (hx : ∀ x ∈ xs, ∃ n, Wh x n) (hy : ∀ y ∈ ys, ∃ n, Wh y n) (k : Nat) (hkx : k ≤ xs.length) (hky : k ≤ ys.length) : sqx xs ys k ≤ 4194304 * k := by
  induction k with
  | zero => simp [sqx]
  | succ k ih =>
    have h1 := ih (by omega) (by omega)
    have hxk : ∃ n, Wh (xs.getD k 0) n := hx _ (mem_getD (by omega))
    have hyk : ∃ n, Wh (ys.getD k 0) n := hy _ (mem_getD (by omega))
    have ha := (zi_wh hxk).2
    have hb := (zi_wh hyk).2
    have := sq_le22 (a := zi (xs.getD k 0) - zi (ys.getD k 0)) (by omega)
    simp only [sqx]
    omega

theorem sqx_le10 (xs ys : List Nat) (hx : ∀ x ∈ xs, ∃ n, Wh x n) (hy : ∀ y ∈ ys, ∃ n, Wh y n) (k : Nat) (hkx : k ≤ xs.length) (hky : k ≤ ys.length) (hk : k ≤ 4) : sqx xs ys k ≤ 33554432 := by
  have := sqx_le22 xs ys hx hy k hkx hky
  omega

theorem dst_of {b : Nat} {s : Int} (h : Gd 0 b s) (h0 : 0 ≤ s) (hs : s ≤ 33554432) : ∃ r, Ieee.double.sqrt b = some r ∧ Dst r s := by
  have e : ((s : Int) : Rat) * p2 (-((0 : Nat) : Int)) = (s : Rat) := by
    have : (-((0 : Nat) : Int)) = 0 := rfl
    rw [this, p2_zero, Rat.mul_one]
  have hv : vl b = (s : Rat) := by have := h.2; rw [e] at this; exact this
  have hp : p2 25 = 33554432 := by decide +kernel
  have h2 := rat_le hs
  have e2 : ((33554432 : Int) : Rat) = 33554432 := rfl
  rw [e2, ← hp] at h2
  obtain ⟨r, hr, h3, h4, h5, -⟩ := sqrt_ok h.1 (by rw [hv]; exact rat_le h0) (by rw [hv]; exact rle_lt h2 (by rw [show (900 : Int) = 899 + 1 by rfl, p2_succ]; have h6 := p2_le (i := 25) (j := 899) (by decide); have h7 := p2_pos 899; grind))
  rw [hv] at h5
  exact ⟨r, hr, h3, h4, h5⟩
end Lox
namespace Go.Proofs.YtpamoleocjdjiaaDoor
open Go.RowKit Lox
set_option linter.unusedVariables false
attribute [local go_sem] run_store_flt run_store_fn

theorem run_sqrt (x r : Nat) (h : Ieee.double.sqrt x = some r) : Extern.MathSqrt.sqrt #[.float .f64 x] = pure (.float .f64 r) := by
  delta Extern.MathSqrt.sqrt
  conv => lhs; whnf
  have h' : FloatKind.f64.format.sqrt x = some r := h
  rw [h']

theorem sqrt_at (x r : Nat) (w : World) (h : Ieee.double.sqrt x = some r) : Calls Tryd.prog 13 #[.float .f64 x] w fun e w' => e = .returned (.float .f64 r) ∧ w = w' := by
  have hq : ∀ w : World, (callFunc 32 #[.float .f64 x]).run Tryd.prog w = .ok (.value (.float .f64 r)) w := fun w => by
    rw [run_callFunc_extern Tryd.func32 (by kernel_rfl) (by kernel_rfl) (by kernel_rfl) (e := Extern.MathSqrt.sqrt) (by kernel_rfl), run_sqrt x r h]
    rfl
  clear h
  go_enter Tryd.func13, Tryd.ntmps13
  go_wp2
  go_ret
  exact ⟨rfl, rfl⟩

theorem run_assert_vp (v : Value) (w : World) : (Instr.typeAssert (.iface 78 v) 74 78 false).run Tryd.prog w = .ok v w := by kernel_rfl

set_option maxHeartbeats 2000000 in
theorem vdist_at (w : World) (dims : Nat) (p q : TP) (hp : p.Ok w dims) (hq : q.Ok w dims) (gp : p.Gr) (gq : q.Gr) (hdm : dims ≤ 4) :
    Calls Tryd.prog 111 #[.slice p.A dims p.c, .iface 78 (.slice q.A dims q.c)] w fun e w' => (∃ r, e = .returned (.float .f64 r) ∧ Dst r (sqx p.xs q.xs dims)) ∧ w = w' := by
  have hta := run_assert_vp
  have HH := Lib.hid (And.intro hp (And.intro hq (And.intro (TP.gr_iff.1 gp) (TP.gr_iff.1 gq))))
  have hz0 : Gd 0 0 0 := gd0_of_is is_zero
  have HZ0 := Lib.hid hz0
  clear hp hq gp gq hz0
  go_enter Tryd.func111, Tryd.ntmps111
  go_wp2
  go_loop [6, 14] (fun s i => ∃ k b : Nat, k ≤ dims ∧ i = .int .i64 k ∧ s = .float .f64 b ∧ Hid (Gd 0 b (sqx p.xs q.xs k))) (fun _ i => dims - (intOf i).toNat)
  case atStart => exact ⟨0, 0, Nat.zero_le _, rfl, rfl, HZ0.out⟩
  case round =>
    obtain ⟨k, b, hk, rfl, rfl, HR⟩ := hrel
    by_cases hlt : k < dims
    · obtain ⟨l1, s1⟩ := HH.out.1
      obtain ⟨l2, s2⟩ := HH.out.2.1
      rw [l1] at s1
      rw [l2] at s2
      obtain ⟨b1, o1, v1, e1, f1, c1⟩ := s1.at1 hlt
      obtain ⟨b2, o2, v2, e2, f2, c2⟩ := s2.at1 hlt
      rw [flts_getD (by omega)] at f1 f2
      cases f1
      cases f2
      have hxk : ∃ n, Wh (p.xs.getD k 0) n := HH.out.2.2.1 _ (mem_getD (by omega))
      have hyk : ∃ n, Wh (q.xs.getD k 0) n := HH.out.2.2.2 _ (mem_getD (by omega))
      have hle := sqx_le p.xs q.xs HH.out.2.2.1 HH.out.2.2.2 k (by omega) (by omega)
      obtain ⟨d, m, r, r1, r2, r3, hg⟩ := sq_run (zi_wh hxk) (zi_wh hyk) HR.out (sqx_nn _ _ _) (by omega)
      have HG : Hid (Gd 0 r (sqx p.xs q.xs (k + 1))) := hg
      rw [e1, e2]
      clear hg hle hxk hyk l1 l2 s1 s2 e1 e2
      generalize p.xs.getD k 0 = x at c1 r1
      generalize q.xs.getD k 0 = y at c2 r1
      go_wp2
      go_round
      case rel => exact ⟨k + 1, r, by omega, by go_num, rfl, HG⟩
      case measure => simp [intOf]; omega
    · obtain rfl : k = dims := by omega
      have hle : sqx p.xs q.xs k ≤ 33554432 := sqx_le10 p.xs q.xs HH.out.2.2.1 HH.out.2.2.2 k (by have := HH.out.1.1; omega) (by have := HH.out.2.1.1; omega) hdm
      obtain ⟨r, hr, hD⟩ := dst_of HR.out (sqx_nn _ _ _) hle
      have HD := Lib.hid hD
      have HQ := Lib.hid hr
      clear hle hr hD
      go_wp2_with (go_at_call 13; refine (sqrt_at b r w HQ.out).mono ?_; rintro _ _ ⟨rfl, rfl⟩)
      go_ret
      exact ⟨⟨r, rfl, HD.out⟩, rfl⟩

end Go.Proofs.YtpamoleocjdjiaaDoor

namespace Go.Proofs.YtpamoleocjdjiaaDoor
open Go.RowKit Lox
set_option linter.unusedVariables false
attribute [local go_sem] run_store_flt run_store_fn undef

/-- A point as it lies in the array. -/
def TP.iv (p : TP) : Value := .iface 78 p.v

/-- The array's block: the points, and whatever stands behind them. -/
def VPs (w : World) (pb : Nat) (ps : List TP) : Prop := ∃ rest, Blk w pb 74 (ps.map TP.iv ++ rest)
/-- The distances' block. -/
def Wks (w : World) (wb : Nat) (ds : List Nat) : Prop := ∃ rest, Blk w wb 27 (flts ds ++ rest)

theorem VPs.lt {w : World} {pb : Nat} {ps : List TP} (h : VPs w pb ps) : pb < w.heap.size := by obtain ⟨rest, h⟩ := h; exact h.lt
theorem Wks.lt {w : World} {wb : Nat} {ds : List Nat} (h : Wks w wb ds) : wb < w.heap.size := by obtain ⟨rest, h⟩ := h; exact h.lt

theorem VPs.at {w : World} {pb i : Nat} {ps : List TP} {p : TP} (h : VPs w pb ps) (hp : ps[i]? = some p) : w.cell? ⟨pb, i, none⟩ = some p.iv := by
  obtain ⟨rest, h⟩ := h
  have hl := (List.getElem?_eq_some_iff.1 hp).1
  exact h.at (by rw [List.getElem?_append_left (by simpa using hl), List.getElem?_map, hp]; rfl)
theorem Wks.at {w : World} {wb i : Nat} {ds : List Nat} {d : Nat} (h : Wks w wb ds) (hd : ds[i]? = some d) : w.cell? ⟨wb, i, none⟩ = some (.float .f64 d) := by
  obtain ⟨rest, h⟩ := h
  have hl := (List.getElem?_eq_some_iff.1 hd).1
  exact h.at (by unfold flts; rw [List.getElem?_append_left (by simpa using hl), List.getElem?_map, hd]; rfl)

theorem VPs.frozen {w : World} {pb : Nat} {ps : List TP} (h : VPs w pb ps) (i : Nat) : w.frozen? ⟨pb, i, none⟩ = false := by obtain ⟨rest, h⟩ := h; exact h.frozen i
theorem Wks.frozen {w : World} {wb : Nat} {ds : List Nat} (h : Wks w wb ds) (i : Nat) : w.frozen? ⟨wb, i, none⟩ = false := by obtain ⟨rest, h⟩ := h; exact h.frozen i

theorem VPs.mod {w w' : World} {pb : Nat} {ps : List TP} {S : Nat → Prop} (h : VPs w pb ps) (hm : Mod S w w') (hS : ¬ S pb) : VPs w' pb ps := by obtain ⟨rest, h⟩ := h; exact ⟨rest, h.mod hm hS⟩
theorem Wks.mod {w w' : World} {wb : Nat} {ds : List Nat} {S : Nat → Prop} (h : Wks w wb ds) (hm : Mod S w w') (hS : ¬ S wb) : Wks w' wb ds := by obtain ⟨rest, h⟩ := h; exact ⟨rest, h.mod hm hS⟩

theorem VPs.set {w : World} {pb : Nat} {ps : List TP} (h : VPs w pb ps) (i : Nat) (hi : i < ps.length) (p : TP) : VPs (w.setCell ⟨pb, i, none⟩ p.iv) pb (ps.set i p) := by
  obtain ⟨rest, h⟩ := h
  refine ⟨rest, ?_⟩
  have := Blk.set h i p.iv
  rw [List.set_append_left _ _ (by simpa using hi)] at this
  rw [List.map_set]
  exact this
theorem Wks.set {w : World} {wb : Nat} {ds : List Nat} (h : Wks w wb ds) (i : Nat) (hi : i < ds.length) (d : Nat) : Wks (w.setCell ⟨wb, i, none⟩ (.float .f64 d)) wb (ds.set i d) := by
  obtain ⟨rest, h⟩ := h
  refine ⟨rest, ?_⟩
  have := Blk.set h i (.float .f64 d)
  rw [List.set_append_left _ _ (by simpa [flts] using hi)] at this
  unfold flts
  rw [List.map_set]
  exact this

/-- byDist, of the first n distances and the points from place o on. -/
def byV (wb pb o n c1 c2 : Nat) : Value := .agg #[.slice (some ⟨wb, 0, none⟩) n c1, .slice (some ⟨pb, o, none⟩) n c2]

theorem blen_at (w : World) (wb pb o n c1 c2 : Nat) (hn : n ≤ 1099511627776) : Calls Tryd.prog 125 #[byV wb pb o n c1 c2] w fun e w' => e = .returned (.int .i64 n) ∧ Mod (fun _ => False) w w' := by
  unfold byV
  go_enter Tryd.func125, Tryd.ntmps125
  go_wp2
  go_ret
  exact ⟨rfl, (Mod.refl _ _).alloc _⟩

theorem bless_at (w : World) (wb pb o n c1 c2 i j x y : Nat) (ds : List Nat) (h : Wks w wb ds) (hi : i < n) (hj : j < n) (hx : ds[i]? = some x) (hy : ds[j]? = some y) (fx : Lox.Fin x) (fy : Lox.Fin y) (hn : n ≤ 1099511627776) :
    Calls Tryd.prog 126 #[byV wb pb o n c1 c2, .int .i64 i, .int .i64 j] w fun e w' => e = .returned (.bool (decide (fk x < fk y))) ∧ Mod (fun _ => False) w w' := by
  have hlt := ord_lt fx fy
  have d0 := h.at hx
  have d1 := h.at hy
  have i0 : (0 : Int) ≤ i := by omega
  have i1 : (i : Int) < n := by omega
  have j0 : (0 : Int) ≤ j := by omega
  have j1 : (j : Int) < n := by omega
  have lt := h.lt
  unfold byV
  clear h hx hy
  go_enter Tryd.func126, Tryd.ntmps126
  go_wp2
  go_region
  all_goals (go_wp2; go_ret)
  all_goals exact ⟨rfl, ((Mod.refl _ w).alloc _).drew⟩

theorem vswp_set {α : Type} {l : List α} {i j : Nat} {a b : α} (hi : l[i]? = some a) (hj : l[j]? = some b) : KB.swp l i j = (l.set i b).set j a := by
  unfold KB.swp
  rw [hi, hj]

/-- The distances behind two stores. -/
theorem BS.fst {w : World} {wb i j x y : Nat} {ds : List Nat} {ob : Obj} (h : Wks w wb ds) (hd : i < ds.length ∧ j < ds.length) :
    Wks ((((w.setCell ⟨wb, i, none⟩ (.float .f64 y)).setCell ⟨wb, j, none⟩ (.float .f64 x)).alloc ob).drew) wb ((ds.set i y).set j x) ∧
    Mod (fun k => k = wb) w ((((w.setCell ⟨wb, i, none⟩ (.float .f64 y)).setCell ⟨wb, j, none⟩ (.float .f64 x)).alloc ob).drew) ∧
    ∀ (c : Array Value) (T : TypeId), ob = .cells c T → Blk ((((w.setCell ⟨wb, i, none⟩ (.float .f64 y)).setCell ⟨wb, j, none⟩ (.float .f64 x)).alloc ob).drew) w.heap.size T c.toList := by
  refine ⟨?_, ?_, ?_⟩
  · obtain ⟨rest, h1⟩ := (h.set i hd.1 y).set j (by rw [List.length_set]; exact hd.2) x
    exact ⟨rest, (h1.alloc ob).drew⟩
  · exact ((((Mod.refl (fun k => k = wb) w).set (p := ⟨wb, i, none⟩) (.inl rfl) _).set (p := ⟨wb, j, none⟩) (.inl rfl) _).alloc ob).drew
  · rintro c T rfl
    have := Blk.new' ((w.setCell ⟨wb, i, none⟩ (.float .f64 y)).setCell ⟨wb, j, none⟩ (.float .f64 x)) c T
    rw [show ((w.setCell ⟨wb, i, none⟩ (.float .f64 y)).setCell ⟨wb, j, none⟩ (.float .f64 x)).heap.size = w.heap.size by simp [World.setCell]] at this
    exact this.drew

/-- The points behind two stores. -/
theorem BS.snd {w : World} {pb a b : Nat} {p q : TP} {ps : List TP} (hp : VPs w pb ps) (ho : a < ps.length ∧ b < ps.length) :
    VPs (((w.setCell ⟨pb, a, none⟩ q.iv).setCell ⟨pb, b, none⟩ p.iv).drew) pb ((ps.set a q).set b p) ∧
    Mod (fun k => k = pb) w (((w.setCell ⟨pb, a, none⟩ q.iv).setCell ⟨pb, b, none⟩ p.iv).drew) := by
  refine ⟨?_, ?_⟩
  · obtain ⟨rest, h1⟩ := (hp.set a ho.1 q).set b (by rw [List.length_set]; exact ho.2) p
    exact ⟨rest, h1.drew⟩
  · exact (((Mod.refl (fun k => k = pb) w).set (p := ⟨pb, a, none⟩) (.inl rfl) _).set (p := ⟨pb, b, none⟩) (.inl rfl) _).drew

set_option maxHeartbeats 4000000 in
theorem bswap_at (w : World) (wb pb o n c1 c2 i j : Nat) (ds : List Nat) (ps : List TP) (h : Wks w wb ds) (hp : VPs w pb ps) (hne : wb ≠ pb) (hi : i < n) (hj : j < n) (hd : n ≤ ds.length) (ho : o + n ≤ ps.length) (hn : o + n ≤ 1099511627776) :
    Calls Tryd.prog 127 #[byV wb pb o n c1 c2, .int .i64 i, .int .i64 j] w fun e w' => e = .returned (.tuple #[]) ∧ Wks w' wb (KB.swp ds i j) ∧ VPs w' pb (KB.swp ps (o + i) (o + j)) ∧ Mod (fun k => k = pb ∨ k = wb) w w' := by
  obtain ⟨x, hx⟩ : ∃ x, ds[i]? = some x := ⟨_, List.getElem?_eq_getElem (by omega)⟩
  obtain ⟨y, hy⟩ : ∃ y, ds[j]? = some y := ⟨_, List.getElem?_eq_getElem (by omega)⟩
  obtain ⟨p, hpi⟩ : ∃ p, ps[o + i]? = some p := ⟨_, List.getElem?_eq_getElem (by omega)⟩
  obtain ⟨q, hqj⟩ : ∃ q, ps[o + j]? = some q := ⟨_, List.getElem?_eq_getElem (by omega)⟩
  rw [vswp_set hx hy, vswp_set hpi hqj]
  have d1 := h.at hx
  have d2 := h.at hy
  have f1 := h.frozen i
  have f2 := h.frozen j
  have i0 : (0 : Int) ≤ i := by omega
  have i1 : (i : Int) < n := by omega
  have j0 : (0 : Int) ≤ j := by omega
  have j1 : (j : Int) < n := by omega
  have lt := h.lt
  have hpl := hp.lt
  have HH := Lib.hid (And.intro h hp)
  have HE := Lib.hid (And.intro hpi hqj)
  have HX := Lib.hid (And.intro hx hy)
  unfold byV
  clear h hp hpi hqj hx hy
  go_enter Tryd.func127, Tryd.ntmps127
  go_wp2
  go_cut [3] from 6 to 24 (fun s wx => ∃ b3 : Nat, s = .pointer (some ⟨b3, 0, none⟩) ∧ pb < b3 ∧ Hid (Wks wx wb ((ds.set i y).set j x) ∧ VPs wx pb ps ∧ Mod (fun k => k = wb) w wx ∧ Blk wx b3 158 [.slice (some ⟨wb, 0, none⟩) n c1, .slice (some ⟨pb, o, none⟩) n c2]))
  case first =>
    by_cases hij : i = j
    · subst hij
      obtain rfl : x = y := by have e := HX.out.1.symm.trans HX.out.2; cases e; rfl
      go_region
      all_goals
        go_wp2_with fail
        go_meet
        have hh := BS.fst (x := x) (y := x) (ob := .cells #[Value.slice (some ⟨wb, 0, none⟩) n c1, Value.slice (some ⟨pb, o, none⟩) n c2] 158) HH.out.1 ⟨(by omega : i < ds.length), (by omega : i < ds.length)⟩
        exact ⟨_, rfl, hpl, hh.1, HH.out.2.mod hh.2.1 (fun e => hne e.symm), hh.2.1, hh.2.2 _ _ rfl⟩
    · have n3 : i ≠ j := hij
      have n4 : j ≠ i := Ne.symm hij
      clear hij
      go_region
      all_goals
        go_wp2_with fail
        go_meet
        have hh := BS.fst (x := x) (y := y) (ob := .cells #[Value.slice (some ⟨wb, 0, none⟩) n c1, Value.slice (some ⟨pb, o, none⟩) n c2] 158) HH.out.1 ⟨(by omega : i < ds.length), (by omega : j < ds.length)⟩
        exact ⟨_, rfl, hpl, hh.1, HH.out.2.mod hh.2.1 (fun e => hne e.symm), hh.2.1, hh.2.2 _ _ rfl⟩
  case rest =>
    obtain ⟨b3, rfl, hb3, HC⟩ := hcut
    have q1 : pb ≠ b3 := by omega
    have q2 : b3 ≠ pb := by omega
    have e1 : wc.cell? ⟨pb, o + i, none⟩ = some p.iv := HC.out.2.1.at HE.out.1
    have e2 : wc.cell? ⟨pb, o + j, none⟩ = some q.iv := HC.out.2.1.at HE.out.2
    have k1 := HC.out.2.1.frozen (o + i)
    have k2 := HC.out.2.1.frozen (o + j)
    have g0 := HC.out.2.2.2.at (i := 0) rfl
    have g1 := HC.out.2.2.2.at (i := 1) rfl
    have lt2 := HC.out.2.1.lt
    unfold TP.iv TP.v at e1 e2
    clear d1 d2 f1 f2 lt
    by_cases hij : i = j
    · subst hij
      obtain rfl : x = y := by have e := HX.out.1.symm.trans HX.out.2; cases e; rfl
      obtain rfl : p = q := by have e := HE.out.1.symm.trans HE.out.2; cases e; rfl
      clear e2 k2
      go_wp2_with fail
      go_region
      all_goals
        have hh := BS.snd (p := p) (q := p) HC.out.2.1 ⟨(by omega : o + i < ps.length), (by omega : o + i < ps.length)⟩
        refine bodyPost_end (by simp [results, Tryd.results127, go_sem]) rfl ⟨rfl, HC.out.1.mod hh.2 hne, hh.1, (HC.out.2.2.1.mono (fun _ _ h => .inr h)).trans (hh.2.mono (fun _ _ h => .inl h))⟩
    · have n1 : o + i ≠ o + j := by omega
      have n2 : o + j ≠ o + i := by omega
      have n3 : i ≠ j := hij
      have n4 : j ≠ i := Ne.symm hij
      clear hij
      go_wp2_with fail
      go_region
      all_goals
        have hh := BS.snd (p := p) (q := q) HC.out.2.1 ⟨(by omega : o + i < ps.length), (by omega : o + j < ps.length)⟩
        refine bodyPost_end (by simp [results, Tryd.results127, go_sem]) rfl ⟨rfl, HC.out.1.mod hh.2 hne, hh.1, (HC.out.2.2.1.mono (fun _ _ h => .inr h)).trans (hh.2.mono (fun _ _ h => .inl h))⟩
end Go.Proofs.YtpamoleocjdjiaaDoor

namespace Go.Proofs.YtpamoleocjdjiaaDoor
open Go.RowKit Lox
set_option linter.unusedVariables false
attribute [local go_sem] run_store_flt run_store_fn

theorem info_vcomp : (Tryd.prog.info? 74).map (fun i => (i.zero, i.size, i.bytes)) = some (some .nilIface, 1, 16) := by kernel_rfl

/-- Points that have been copied so far, in a row v of their own. -/
structure VP (w w' : World) (dims : Nat) (v : Value) (ps qs : List TP) : Prop where
  own : w'.ownsRow w.heap.size 74 1 v qs.length (qs.map TP.iv)
  same : qs.map TP.xs = ps.map TP.xs
  ok : ∀ p ∈ qs, p.Ok w' dims ∧ ∀ b o, p.A = some ⟨b, o, none⟩ → w.heap.size ≤ b ∧ v.ownBlock ≠ some b
  mod : Mod (fun _ => False) w w'

theorem VP.step {w w' w1 w3 : World} {dims : Nat} {v : Value} {ps qs : List TP} {p : TP} {A2 : Option Addr} {c2 g cap : Nat} (h : VP w w' dims v ps qs) (hdm : 0 < dims) (hp : p.xs.length = dims) (hm : Mod (fun _ => False) w' w1) (hs : Sl w1 A2 dims 1 (flts p.xs))
    (hA : ∀ b o, A2 = some ⟨b, o, none⟩ → w'.heap.size ≤ b) {o : Obj} (hown : w3.ownsRow w.heap.size 74 1 (.slice (some ⟨g, 0, none⟩) (qs.length + 1) cap) (qs.length + 1) (qs.map TP.iv ++ [.iface 78 (.slice A2 dims c2)]))
    (hgrow : (w1.alloc o).grownBy w3 v.ownBlock) (hat : v.ownBlock = some g ∨ g = w1.heap.size + 1) (hob : ∀ b, v.ownBlock = some b → w.heap.size ≤ b ∧ b < w'.heap.size) :
    VP w w3 dims (.slice (some ⟨g, 0, none⟩) (qs.length + 1) cap) (ps ++ [p]) (qs ++ [⟨A2, c2, p.xs⟩]) := by
  have hs1 := hm.size
  have hs0 := h.mod.size
  have keep : ∀ q : TP, q.Ok w1 dims → (∀ b o, q.A = some ⟨b, o, none⟩ → v.ownBlock ≠ some b) → q.Ok w3 dims := by
    intro q hq hne
    refine ⟨hq.1, hq.2.1, fun h0 => ?_⟩
    obtain ⟨b, o', e, hc⟩ := hq.2.2 h0
    refine ⟨b, o', e, fun j u hu => ?_⟩
    have hcj := hc j u hu
    have hlt := lt_of_cell hcj
    exact (hgrow.cell_far _ (by rw [World.size_alloc]; exact Nat.lt_succ_of_lt hlt) (Ne.symm (hne b o' e))).trans ((World.cell?_alloc_past _ _ _ hlt).trans hcj)
  refine ⟨by rw [List.length_append, List.map_append]; simpa [TP.iv, TP.v, hp] using hown, by simp [h.same], ?_, ?_⟩
  · intro q hq
    rcases List.mem_append.1 hq with hq | hq
    · obtain ⟨k1, k2⟩ := h.ok q hq
      refine ⟨keep q ⟨k1.1, k1.2.mod hm⟩ (fun b o e => (k2 b o e).2), fun b o e => ⟨(k2 b o e).1, fun e2 => ?_⟩⟩
      have e2 : some g = some b := e2
      injection e2 with e2
      subst e2
      have hlt : g < w'.heap.size := (k1.2.far (by omega)) (by rw [k1.1]; exact hdm) g o e
      rcases hat with h1 | h1
      · exact (k2 g o e).2 h1
      · omega
    · rw [List.mem_singleton.1 hq]
      refine ⟨keep _ ⟨hp, by rw [hp]; exact hs⟩ (fun b o e h1 => ?_), fun b o e => ⟨by have := hA b o e; omega, fun e2 => ?_⟩⟩
      · have := hA b o e
        have := (hob b h1).2
        omega
      · have e2 : some g = some b := e2
        injection e2 with e2
        subst e2
        have h2 := hA g o e
        have hlt : g < w1.heap.size := (hs.far (by omega)) hdm g o e
        rcases hat with h1 | h1
        · have := (hob g h1).2; omega
        · omega
  · exact ((h.mod.trans hm).alloc o).grown hgrow (fun k e hk => by have := (hob k e).1; omega)

/-- What vpoints tells. -/
def VpTold (dims n : Nat) (ps : List TP) (w : World) (e : Ending) (w' : World) : Prop :=
  ∃ (X : Option Addr) (c pb : Nat) (qs : List TP), e = .returned (.slice X n c) ∧ qs.length = n ∧ qs.map TP.xs = ps.map TP.xs ∧ n ≤ c ∧ c ≤ 9223372036854775807 ∧ Mod (fun _ => False) w w' ∧ w.heap.size ≤ pb ∧
    (0 < n → X = some ⟨pb, 0, none⟩ ∧ VPs w' pb qs) ∧ ∀ p ∈ qs, p.Okp w' dims pb ∧ ∀ b o, p.A = some ⟨b, o, none⟩ → w.heap.size ≤ b

theorem VP.told {w w' : World} {dims : Nat} {v : Value} {ps qs : List TP} (h : VP w w' dims v ps qs) : VpTold dims ps.length ps w (.returned v) w' := by
  have hl : qs.length = ps.length := by have := congrArg List.length h.same; simpa using this
  have hs := h.mod.size
  rcases h.own.2 with ⟨rfl, h0⟩ | ⟨g, cap, cur, e1, hB, hg, hc, hcm, hsz, ht⟩
  · have : qs = [] := List.length_eq_zero_iff.1 h0
    subst this
    exact ⟨none, 0, w.heap.size, [], by rw [← hl]; rfl, hl, h.same, by rw [← hl]; exact Nat.le_refl _, by omega, h.mod, Nat.le_refl _, fun h => by rw [← hl] at h; exact absurd h (by simp), fun p hp => by cases hp⟩
  · subst e1
    rw [Nat.mul_one] at ht
    refine ⟨_, cap, g, qs, by rw [hl], hl, h.same, by omega, by unfold maxLen at hcm; exact hcm, h.mod, hB, fun _ => ⟨rfl, cur.toList.drop qs.length, ?_⟩, fun p hp => ⟨⟨(h.ok p hp).1, fun b o e e2 => ((h.ok p hp).2 b o e).2 (by rw [e2]; rfl)⟩, fun b o e => ((h.ok p hp).2 b o e).1⟩⟩
    unfold Blk
    rw [← ht, List.take_append_drop]
    exact hg

set_option maxHeartbeats 4000000 in
theorem vpoints_at (O : Option Addr) (n c dims : Nat) (ps : List TP) (w : World) (h : PRows w O n ps dims) (hn : n ≤ 1099511627776) (hdm : 0 < dims ∧ dims ≤ 1099511627776) :
    Calls Tryd.prog 24 #[.slice O n c] w (VpTold dims n ps w) := by
  obtain ⟨i0, hi0, hz0, hz1, hz2⟩ := info_parts info_vcomp
  have HI := Lib.hid (And.intro hi0 (And.intro hz0 (And.intro hz1 hz2)))
  clear hi0 hz0 hz1 hz2
  have hl := h.len
  have HH := Lib.hid (And.intro h hl)
  clear h hl
  go_enter Tryd.func24, Tryd.ntmps24
  go_wp2_with fail
  go_loopw [3, 8] (fun v i w' => ∃ (k : Nat) (qs : List TP), k ≤ n ∧ i = .int .i64 k ∧ Hid (VP w w' dims v (ps.take k) qs ∧ qs.length = k)) (fun _ i _ => n - (intOf i).toNat)
  case atStart => exact ⟨0, [], Nat.zero_le _, rfl, ⟨World.ownsRow_nil _ _ _ _, rfl, fun p hp => (by cases hp), Mod.refl _ _⟩, rfl⟩
  case round =>
    obtain ⟨k, qs, hk, rfl, HR⟩ := hrel
    by_cases hlt : k < n
    · obtain ⟨b, o, v0, e1, e2, c1⟩ := (HH.out.1.mod HR.out.1.mod).1.at1 hlt
      have hk2 : k < ps.length := by rw [HH.out.2]; exact hlt
      obtain ⟨p, ep⟩ : ∃ p, p = ps[k] := ⟨_, rfl⟩
      have hpm : p ∈ ps := by rw [ep]; exact List.getElem_mem hk2
      have hTK : ps.take (k + 1) = ps.take k ++ [p] := by rw [List.take_succ_eq_append_getElem hk2, ep]
      have e3 : (ps.map TP.v)[k]? = some p.v := by rw [ep]; simp [hk2]
      rw [e3] at e2
      cases e2
      obtain ⟨hrd, hpl⟩ := (HH.out.1.mod HR.out.1.mod).2 p hpm
      have c2 : wr.cell? ⟨b, o + k, none⟩ = some (.slice p.A dims p.c) := by rw [c1, ← hpl]; rfl
      have hsl : Sl wr p.A dims 1 (flts p.xs) := by rw [← hpl]; exact hrd.1
      have HS := Lib.hid (And.intro hsl (And.intro hpl (And.intro hTK (fun b hb => own_block HR.out.1.own (b := b) hb))))
      subst e1
      clear ep hpm hTK e3 c1 hrd hpl hsl hk2
      have i0' : (0 : Int) ≤ k := by omega
      have i1' : (k : Int) < n := by omega
      go_wp2_with (first
        | (go_at_call 37; refine (floats_any p.A dims p.c p.xs _ HS.out.1 hdm.2 hdm.1).mono ?_; rintro _ w1 ⟨A2, cc2, rfl, hs2, hm2, hb2⟩; have HW := Lib.hid (And.intro hs2 (And.intro hm2 hb2)); clear hs2 hm2 hb2)
        | (at_builtin; refine wpList_append_lies _ (by rfl) (.tmp 12) (.tmp 16) 61 (by rfl) w.heap.size 74 i0 _ 1 16 Tryd.underlying61 HI.out.1 HI.out.2.1 HI.out.2.2.1 HI.out.2.2.2 rfl (by omega) u3 qs.length (qs.map TP.iv) (by rfl) ((HR.out.1.own.kept HW.out.2.1.grownBy (Decidable.em _)).alloc _) ⟨w1.heap.size, 0, none⟩ 1 1 [.iface 78 (.slice A2 dims cc2)] (by rfl) (by rfl) (World.news_of_block (cs := #[.iface 78 (.slice A2 dims cc2)]) (t := 74) (fr := (0, 0)) (heap_alloc_new w1 _)) (by simp [Value.oneCell']) (by omega) (by have := HR.out.2; unfold maxLen; omega) (by have := HR.out.2; omega) (by have := HR.out.1.mod.size; have := HW.out.2.1.size; simp; omega) (w1.heap.size + 1) (by simp) ?_; intro gg cap w3 hown3 hgrow hat hlt3; have HG := Lib.hid (And.intro hown3 (And.intro hgrow hat)); clear hown3 hgrow hat))
      go_roundw
      case rel =>
        refine ⟨k + 1, qs ++ [⟨A2, cc2, p.xs⟩], by omega, by go_num, ?_, by simp [HR.out.2]⟩
        rw [HS.out.2.2.1]
        exact HR.out.1.step hdm.1 HS.out.2.1 HW.out.2.1 HW.out.1 HW.out.2.2 HG.out.1 HG.out.2.1 HG.out.2.2 HS.out.2.2.2
      case measure => simp [intOf]; omega
    · obtain rfl : k = n := by omega
      go_wp2_with fail
      go_ret
      have h1 := HR.out.1
      rw [List.take_of_length_le (by rw [HH.out.2]; exact Nat.le_refl _)] at h1
      have h2 := h1.told
      rw [HH.out.2] at h2
      exact h2
end Go.Proofs.YtpamoleocjdjiaaDoor

namespace Go.Proofs.YtpamoleocjdjiaaDoor
open Go.RowKit Lox Go.Sort
set_option linter.unusedVariables false

/-- What is asked of a receiver .iface T rv: Less and Swap are reached, St w d tells that the world holds the list d; only blocks of S turn, all below H; what lies from H on does not touch the list. -/
structure Srt {α : Type} [Inhabited α] (T : TypeId) (rv vl vs : Value) (gl gs : Nat) (lt : α → α → Bool) (n H : Nat) (S : Nat → Prop) (St : World → Array α → Prop) : Prop where
  findL : ∀ w d, St w d → (method 308 T rv "Less").run Tryd.prog w = .ok (gl, vl) w
  findS : ∀ w d, St w d → (method 308 T rv "Swap").run Tryd.prog w = .ok (gs, vs) w
  enterL : ∀ args w, (callFunc gl args).run Tryd.prog w = .ok (.enter gl args) w
  enterS : ∀ args w, (callFunc gs args).run Tryd.prog w = .ok (.enter gs args) w
  size : ∀ w d, St w d → d.size = n
  most : n < 4611686018427387904
  keep : ∀ w w' d, Mod (fun k => H ≤ k) w w' → St w d → St w' d
  low : ∀ w d, St w d → H ≤ w.heap.size
  less : ∀ w d (i j : Nat), St w d → i < n → j < n → i ≠ j → Calls Tryd.prog gl #[vl, .int .i64 i, .int .i64 j] w fun e w' => e = .returned (.bool (lt d[i]! d[j]!)) ∧ Mod (fun _ => False) w w'
  swap : ∀ w d (i j : Nat), St w d → i < n → j < n → Calls Tryd.prog gs #[vs, .int .i64 i, .int .i64 j] w fun e w' => e = .returned (.tuple #[]) ∧ St w' (swp d i j) ∧ Mod S w w'
  far : ∀ k, S k → k < H

variable {α : Type} [Inhabited α] {T : TypeId} {rv vl vs : Value} {gl gs n H : Nat} {lt : α → α → Bool} {S : Nat → Prop} {St : World → Array α → Prop}

/-- The world holds some list. -/
def Okd (St : World → Array α → Prop) (w : World) : Prop := ∃ d, St w d

theorem Srt.mL (h : Srt T rv vl vs gl gs lt n H S St) : ∀ w, Okd St w → (method 308 T rv "Less").run Tryd.prog w = .ok (gl, vl) w := fun w ⟨d, hd⟩ => h.findL w d hd
theorem Srt.mS (h : Srt T rv vl vs gl gs lt n H S St) : ∀ w, Okd St w → (method 308 T rv "Swap").run Tryd.prog w = .ok (gs, vs) w := fun w ⟨d, hd⟩ => h.findS w d hd

/-- Where a call of the family ends. -/
def SrtEnd (S : Nat → Prop) (St : World → Array α → Prop) (d' : Array α) (w : World) (e : Ending) (w' : World) : Prop := e = .returned (.tuple #[]) ∧ St w' d' ∧ Mod S w w'

theorem none_sub {S : Nat → Prop} {w w' : World} (h : Mod (fun _ => False) w w') : Mod S w w' := ⟨h.os, h.tape, h.output, h.size, fun k hk _ => h.block k hk (fun h => h)⟩

theorem Srt.keep0 {w w' : World} {d : Array α} (h : Srt T rv vl vs gl gs lt n H S St) (hm : Mod (fun _ => False) w w') (hs : St w d) : St w' d := h.keep _ _ _ (none_sub hm) hs

set_option maxHeartbeats 2000000 in
set_option maxRecDepth 100000 in
theorem insertion_at (h : Srt T rv vl vs gl gs lt n H S St) (a b : Nat) (d : Array α) (w : World) (hH : St w d) (hab : a ≤ b) (hb : b ≤ n) :
    Calls Tryd.prog 71 #[.iface T rv, .int .i64 a, .int .i64 b] w (SrtEnd S St (insertionSort lt d a b) w) := by
  have mL := h.mL
  have mS := h.mS
  have eL := h.enterL
  have eS := h.enterS
  have hsz := h.most
  have HD := Lib.hid (And.intro h hH)
  clear h hH
  go_enter Tryd.func71, Tryd.ntmps71
  go_wp2
  go_loopw [6] (fun vi wr => ∃ i : Nat, vi = .int .i64 i ∧ a < i ∧ i ≤ b + 1 ∧ Hid (∃ dk, St wr dk ∧ Mod S w wr ∧ insOuter lt a b i dk = insOuter lt a b (a + 1) d)) (fun vi _ => b + 1 - (intOf vi).toNat)
  case atStart => exact ⟨a + 1, by go_num, by omega, by omega, d, HD.out.2, Mod.refl _ _, rfl⟩
  case round =>
    obtain ⟨i, rfl, hai, hib, HR⟩ := hrel
    obtain ⟨dk, h1, h2, h3⟩ := HR.out
    have HO := Lib.hid (And.intro h1 (And.intro h2 h3))
    clear h1 h2 h3
    by_cases hlt : i < b
    · have hlt' : (i : Int) < b := by omega
      go_wp2
      go_loopw [7] (fun vj wr2 => ∃ j : Nat, vj = .int .i64 j ∧ a ≤ j ∧ j ≤ i ∧ Hid (∃ dj, St wr2 dj ∧ Mod S w wr2 ∧ insInner lt a j dj = insInner lt a i dk)) (fun vj _ => (intOf vj).toNat)
      case atStart => exact ⟨i, rfl, by omega, Nat.le_refl _, dk, HO.out.1, HO.out.2.1, rfl⟩
      case round =>
        obtain ⟨j, rfl, haj, hji, HJ⟩ := hrel
        obtain ⟨dj, k1, k2, k3⟩ := HJ.out
        have HI := Lib.hid (And.intro k1 (And.intro k2 k3))
        clear k1 k2 k3
        have r0 : Okd St wr := ⟨_, HI.out.1⟩
        by_cases hja : a < j
        · have hja' : (a : Int) < j := by omega
          have ej : (((j - 1 : Nat) : Int)) = (j : Int) - 1 := by omega
          have hl := fun w2 (hm : Mod (fun _ => False) wr w2) => HD.out.1.less w2 dj j (j - 1) (HD.out.1.keep0 hm HI.out.1) (by omega) (by omega) (by omega)
          have hs := fun w2 (hm : Mod (fun _ => False) wr w2) => HD.out.1.swap w2 dj j (j - 1) (HD.out.1.keep0 hm HI.out.1) (by omega) (by omega)
          rw [ej] at hl hs
          cases hlv : lt dj[j]! dj[j - 1]! with
          | true =>
            rw [hlv] at hl
            have HL := Lib.hid hl
            have HS := Lib.hid hs
            clear hl hs
            go_wp2_with (first
              | (go_at_fn gl; refine (HL.out _ (Mod.refl _ _)).mono ?_; rintro e w3 ⟨rfl, hm3⟩; have r3 : Okd St w3 := ⟨_, HD.out.1.keep0 hm3 HI.out.1⟩; have H3 := Lib.hid hm3; clear hm3)
              | (go_at_fn gs; refine (HS.out _ H3.out).mono ?_; rintro e w4 ⟨rfl, hs4, hm4⟩; have H4 := Lib.hid (And.intro hs4 ((none_sub H3.out).trans hm4)); clear hs4 hm4))
            go_roundw
            case rel => exact ⟨j - 1, by congr 1; omega, by omega, by omega, swp dj j (j - 1), H4.out.1, HI.out.2.1.trans H4.out.2, by rw [← HI.out.2.2, insInner_go lt a j dj hja hlv]⟩
            case measure => simp [intOf]; omega
          | false =>
            rw [hlv] at hl
            have HL := Lib.hid hl
            clear hl hs
            go_wp2_with (go_at_fn gl; refine (HL.out _ (Mod.refl _ _)).mono ?_; rintro e w3 ⟨rfl, hm3⟩; have H3 := Lib.hid hm3; clear hm3)
            go_roundw
            case rel => exact ⟨i + 1, by go_num, by omega, by omega, dj, HD.out.1.keep0 H3.out HI.out.1, HI.out.2.1.trans (none_sub H3.out), by rw [← HO.out.2.2, insOuter_go _ _ _ _ _ hlt, ← HI.out.2.2, insInner_stop _ _ _ _ (.inr hlv)]⟩
            case measure => simp [intOf]; omega
        · have hja' : ¬ (a : Int) < j := by omega
          go_wp2
          go_roundw
          case rel => exact ⟨i + 1, by go_num, by omega, by omega, dj, HI.out.1, HI.out.2.1, by rw [← HO.out.2.2, insOuter_go _ _ _ _ _ hlt, ← HI.out.2.2, insInner_stop _ _ _ _ (.inl (by omega))]⟩
          case measure => simp [intOf]; omega
    · have hlt' : ¬ (i : Int) < b := by omega
      go_wp2
      go_end0
      exact ⟨rfl, by unfold insertionSort; rw [← HO.out.2.2, insOuter_stop _ _ _ _ _ hlt]; exact HO.out.1, HO.out.2.1⟩
end Go.Proofs.YtpamoleocjdjiaaDoor
