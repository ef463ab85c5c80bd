/- The walks of the reference's withNumber and Increasing. Conditions: finite numbers, at most 2^31 - 1 of them. -/
import Derived.Test.YtncpdjlladlalaaKpOwn
import Derived.Deep.AppendLies
namespace Go.Proofs.Ytncpdjlladlalaa
open Go.RowKit Lox
set_option linter.unusedVariables false
attribute [local go_sem] run_store_flt run_store_fn

theorem ShowAt.one {w wr w3 : World} {v : Value} {k x gg cap : Nat} {xs : List Nat} {o1 : Obj} (h : ShowAt w.heap.size w wr v k xs)
    (hown : w3.ownsRow w.heap.size 28 1 (.slice (some ⟨gg, 0, none⟩) (k + 1) cap) (k + 1) (flts xs ++ [.float .f64 x])) (hg : (wr.alloc o1).grownBy w3 v.ownBlock) :
    ShowAt w.heap.size w w3 (.slice (some ⟨gg, 0, none⟩) (k + 1) cap) (k + 1) (xs ++ [x]) := by
  refine ⟨by simpa [flts] using hown, (h.2.1.alloc o1).grown hg (fun b e hb => ?_), by simp [h.2.2]⟩
  have : w.heap.size ≤ b := by
    rcases h.1.2 with ⟨rfl, _⟩ | ⟨g, cap, cur, rfl, hgb, _⟩
    · simp [Value.ownBlock] at e
    · simp only [Value.ownBlock, Option.some.injEq] at e
      omega
  omega

/-- Two numbers are written. -/
theorem ShowAt.two {B : Nat} {w wr : World} {g k cap i j x y : Nat} {xs : List Nat} (h : ShowAt B w wr (.slice (some ⟨g, 0, none⟩) k cap) k xs) (hB : w.heap.size ≤ B) :
    ShowAt B w ((wr.setCell ⟨g, i, none⟩ (.float .f64 x)).setCell ⟨g, j, none⟩ (.float .f64 y)) (.slice (some ⟨g, 0, none⟩) k cap) k ((xs.set i x).set j y) := by
  have h1 := (h.1.stored i (.float .f64 x)).1
  have h2 := (h1.stored j (.float .f64 y)).1
  have hg : B ≤ g := by
    rcases h.1.2 with ⟨e, _⟩ | ⟨g', cap', cur, e, hgb, _⟩
    · cases e
    · cases e; exact hgb
  refine ⟨?_, ?_, by simp [h.2.2]⟩
  · have e : ((flts xs).set i (.float .f64 x)).set j (.float .f64 y) = flts ((xs.set i x).set j y) := by simp [flts, List.map_set]
    rw [e] at h2
    exact h2
  · have e1 : Mod (fun _ => False) w (wr.setCell ⟨g, i, none⟩ (.float .f64 x)) := h.2.1.set (p := ⟨g, i, none⟩) (.inr (by show w.heap.size ≤ g; omega)) _
    exact e1.set (p := ⟨g, j, none⟩) (.inr (by show w.heap.size ≤ g; omega)) _

theorem ShowAt.slice {B : Nat} {w wr : World} {v : Value} {k : Nat} {xs : List Nat} (h : ShowAt B w wr v k xs) : ∃ A c, v = .slice A k c ∧ k ≤ c ∧ Sl wr A k 1 (flts xs) := by
  rcases h.1.2 with ⟨rfl, h0⟩ | ⟨g, cap, cur, e1, hb, hg, hc, _⟩
  · subst h0
    exact ⟨none, 0, rfl, Nat.le_refl _, by have := h.1.1; simpa using this, fun h => by omega⟩
  · subst e1
    refine ⟨some ⟨g, 0, none⟩, cap, rfl, hc, h.1.1, fun _ => ⟨g, 0, rfl, fun j u hu => ?_⟩⟩
    have := h.1.cells (g := g) rfl j u hu
    rw [addr_lit] at this
    exact this

theorem ShowAt.get {B : Nat} {w wr : World} {g k cap i x : Nat} {xs : List Nat} (h : ShowAt B w wr (.slice (some ⟨g, 0, none⟩) k cap) k xs) (hi : xs[i]? = some x) :
    wr.cell? ⟨g, i, none⟩ = some (.float .f64 x) ∧ wr.frozen? ⟨g, i, none⟩ = false := by
  have hl := (List.getElem?_eq_some_iff.1 hi).1
  rw [h.2.2] at hl
  refine ⟨?_, h.1.frozenAt i⟩
  rw [h.1.cellAt i (by omega)]
  simp [flts, hi]

theorem inc_put {P Bs : List Nat} {x : Nat} (h : Inc (P ++ Bs)) (h1 : ∀ b ∈ Bs, fk x < fk b) (h2 : ∀ p, P.getLast? = some p → fk p ≤ fk x) : Inc (P ++ x :: Bs) := by
  have hh := List.pairwise_append.1 h
  refine List.pairwise_append.2 ⟨hh.1, List.pairwise_cons.2 ⟨fun b hb => by have := h1 b hb; omega, hh.2.1⟩, fun a ha b hb => ?_⟩
  have hax : fk a ≤ fk x := by
    cases hP : P.getLast? with
    | none => rw [List.getLast?_eq_none_iff] at hP; subst hP; cases ha
    | some p =>
      have hp := h2 p hP
      obtain ⟨P', rfl⟩ := List.getLast?_eq_some_iff.1 hP
      rcases List.mem_append.1 ha with ha' | ha'
      · have := (List.pairwise_append.1 hh.1).2.2 a ha' p (by simp)
        omega
      · rw [List.mem_singleton.1 ha']; exact hp
  rcases List.mem_cons.1 hb with rfl | hb
  · exact hax
  · have := h1 b hb; omega

/-- A row in increasing order, with one number more. -/
def WithTold (w0 : World) (n x : Nat) (l : List Nat) (e : Ending) (w' : World) : Prop :=
  ∃ v l', e = .returned v ∧ ShowAt w0.heap.size w0 w' v (n + 1) l' ∧ l'.Perm (x :: l) ∧ Inc l'

set_option maxRecDepth 100000 in
set_option maxHeartbeats 4000000 in
theorem with_at (w0 w : World) (v : Value) (n x : Nat) (l : List Nat) (h : ShowAt w0.heap.size w0 w v n l) (hn : n ≤ 2147483647) (hi : Inc l) (hl : ∀ y ∈ l, Lox.Fin y) (hx : Lox.Fin x) :
    Calls Try.prog 63 #[v, .float .f64 x] w (WithTold w0 n x l) := by
  obtain ⟨i1, hi0, hz0, hz1, hz2⟩ := info_parts info_f64
  have HJ := Lib.hid (And.intro hi0 (And.intro hz0 (And.intro hz1 hz2)))
  clear hi0 hz0 hz1 hz2
  have HK := Lib.hid (And.intro h (And.intro hi (And.intro hl hx)))
  have hBs := h.2.1.size
  have hv : ∃ A c, v = .slice A n c := by
    rcases h.1.2 with ⟨rfl, h0⟩ | ⟨g, cap, cur, rfl, _⟩
    · exact ⟨none, 0, by rw [h0]⟩
    · exact ⟨_, _, rfl⟩
  obtain ⟨A, c, rfl⟩ := hv
  clear h hi hl hx
  go_enter Try.func63, Try.ntmps63
  go_wp2_with (at_builtin; refine wpList_append_lies _ rfl _ _ _ rfl w0.heap.size 28 i1 (.float .f64 0) 1 8 Try.underlying27 HJ.out.1 HJ.out.2.1 HJ.out.2.2.1 HJ.out.2.2.2 rfl (by decide) (.slice A n c) n _ rfl (HK.out.1.1.alloc _) ⟨w.heap.size, 0, none⟩ 1 1 [.float .f64 x] rfl rfl (World.news_of_block (cs := #[.float .f64 x]) (t := 28) (fr := (0, 0)) (heap_alloc_new w _)) (by simp [Value.oneCell']) (by omega) (by unfold maxLen; omega) (by omega) (by simp; omega) (w.heap.size + 1) (by simp) ?_; intro g cap w1 hown hgrow hat hlt; have HS1 := Lib.hid (HK.out.1.one hown hgrow); clear hown hgrow hat hlt)
  go_loopw [5] (fun i wr => ∃ P Bs : List Nat, i = .int .i64 P.length ∧ Hid (ShowAt w0.heap.size w0 wr (.slice (some ⟨g, 0, none⟩) (n + 1) cap) (n + 1) (P ++ x :: Bs) ∧ P ++ Bs = l ∧ ∀ b ∈ Bs, fk x < fk b)) (fun i _ => (intOf i).toNat)
  case atStart => exact ⟨l, [], by rw [HK.out.1.2.2], HS1.out, by simp, fun b hb => by cases hb⟩
  case round =>
    obtain ⟨P, Bs, rfl, HR⟩ := hrel
    cases hP : P.getLast? with
    | none =>
      rw [List.getLast?_eq_none_iff] at hP
      subst hP
      go_wp2_with fail
      go_ret
      refine ⟨_, _, rfl, HR.out.1, ?_, inc_put (by rw [HR.out.2.1]; exact HK.out.2.1) HR.out.2.2 (fun p h => by simp at h)⟩
      rw [← HR.out.2.1]
      exact .refl _
    | some p =>
      obtain ⟨P', rfl⟩ := List.getLast?_eq_some_iff.1 hP
      clear hP
      obtain ⟨m, hm⟩ : ∃ m, P'.length = m := ⟨_, rfl⟩
      have hpl : (P' ++ [p]).length = m + 1 := by simp [hm]
      rw [hpl]
      have hmn : m + 1 ≤ n := by
        have h1 := congrArg List.length HR.out.2.1
        rw [HK.out.1.2.2] at h1
        simp [hm] at h1
        omega
      obtain ⟨c1, f1⟩ := HR.out.1.get (i := m) (x := p) (by rw [List.append_assoc, List.getElem?_append_right (by omega)]; simp [hm])
      obtain ⟨c2, f2⟩ := HR.out.1.get (i := m + 1) (x := x) (by rw [List.getElem?_append_right (by simp; omega)]; simp [hm])
      have hpf : Lox.Fin p := HK.out.2.2.1 p (by rw [← HR.out.2.1]; simp)
      obtain ⟨gt, hgt⟩ : ∃ gt : Bool, (FloatKind.f64.format.order p x == some .gt) = gt := ⟨_, rfl⟩
      have hgk := hgt
      rw [ord_gt hpf HK.out.2.2.2] at hgk
      have HG := Lib.hid hgk
      have HM : Hid (P'.length = m) := hm
      have j1 : (m : Int) + 1 < (n : Int) + 1 := by omega
      clear hpl hm hgk hpf
      cases gt with
      | false =>
        go_wp2_with fail
        go_ret
        refine ⟨_, _, rfl, HR.out.1, ?_, inc_put (by rw [HR.out.2.1]; exact HK.out.2.1) HR.out.2.2 (fun q h => ?_)⟩
        · rw [← HR.out.2.1]
          exact List.perm_middle
        · simp at h
          subst h
          have := of_decide_eq_false HG.out
          omega
      | true =>
        go_wp2_with fail
        go_roundw
        case rel =>
          refine ⟨P', p :: Bs, by rw [HM.out], ?_, by have := HR.out.2.1; simpa using this, fun b hb => ?_⟩
          · have h2 := HR.out.1.two (i := m + 1) (j := m) (x := p) (y := x) (Nat.le_refl _)
            have e : ((P' ++ [p] ++ x :: Bs).set (m + 1) p).set m x = P' ++ x :: p :: Bs := by
              rw [List.append_assoc, List.set_append_right _ _ (by rw [HM.out]; omega), List.set_append_right _ _ (by rw [HM.out]; omega), HM.out]
              simp
            rw [e] at h2
            exact h2
          · rcases List.mem_cons.1 hb with rfl | hb
            · exact of_decide_eq_true HG.out
            · exact HR.out.2.2 b hb
        case measure => simp [intOf]

set_option maxRecDepth 100000 in
set_option maxHeartbeats 4000000 in
theorem increasing_at (w : World) (A : Option Addr) (n c : Nat) (xs : List Nat) (h : Sl w A n 1 (flts xs)) (hn : n ≤ 2147483647) (hf : ∀ y ∈ xs, Lox.Fin y) :
    Calls Try.prog 43 #[.slice A n c] w fun e w' => ∃ ys A' c', e = .returned (.slice A' n c') ∧ n ≤ c' ∧ Sl w' A' n 1 (flts ys) ∧ Mod (fun _ => False) w w' ∧ ys.Perm xs ∧ Inc ys := by
  have hlx : xs.length = n := by have := h.1; simpa [flts] using this
  have HK := Lib.hid (And.intro h (And.intro hf hlx))
  clear h hf hlx
  go_enter Try.func43, Try.ntmps43
  go_wp2_with fail
  go_loopw [3, 8] (fun v i wr => ∃ (v0 : Value) (k : Nat) (ys : List Nat), v0 = v ∧ k ≤ n ∧ i = .int .i64 k ∧ Hid (ShowAt w.heap.size w wr v0 k ys ∧ ys.Perm (xs.take k) ∧ Inc ys)) (fun _ i _ => n - (intOf i).toNat)
  case atStart => exact ⟨_, 0, [], rfl, Nat.zero_le _, rfl, ⟨World.ownsRow_nil _ _ _ _, Mod.refl _ _, rfl⟩, .refl _, List.Pairwise.nil⟩
  case round =>
    obtain ⟨v, k, ys, rfl, hk, rfl, HR⟩ := hrel
    by_cases hlt : k < n
    · obtain ⟨b, o, u, e1, e2, c1⟩ := HK.out.1.at1 hlt
      have hkd : k < xs.length := by rw [HK.out.2.2]; exact hlt
      rw [flts_getD hkd] at e2
      cases e2
      obtain ⟨d, ed⟩ : ∃ d, d = xs.getD k 0 := ⟨_, rfl⟩
      rw [← ed] at c1
      have hdk : xs[k]? = some d := by rw [ed]; simp [hkd]
      have HD : Hid (xs.take (k + 1) = xs.take k ++ [d] ∧ Lox.Fin d) := ⟨take_snoc' hdk, HK.out.2.1 d (List.mem_of_getElem? hdk)⟩
      have cc : wr.cell? ⟨b, o + k, none⟩ = some (.float .f64 d) := (HR.out.1.2.1.cell (lt_of_cell c1) (fun h => h)).trans c1
      clear ed hkd hdk c1
      subst e1
      go_wp2_with (go_at_call 63; refine (with_at w _ v k d ys HR.out.1 (by omega) HR.out.2.2 (fun y hy => HK.out.2.1 y (List.mem_of_mem_take (HR.out.2.1.mem_iff.1 hy))) HD.out.2).mono ?_; rintro _ w2 ⟨v2, l2, rfl, hs2, hp2, hi2⟩; have H2 := Lib.hid (And.intro hs2 (And.intro hp2 hi2)); clear hs2 hp2 hi2)
      go_roundw
      case rel => exact ⟨_, k + 1, l2, rfl, by omega, by go_num, H2.out.1, by rw [HD.out.1]; exact H2.out.2.1.trans ((HR.out.2.1.cons _).trans (List.perm_append_comm (l₁ := [d]))), H2.out.2.2⟩
      case measure => simp [intOf]; omega
    · obtain rfl : k = n := by omega
      go_wp2_with fail
      go_ret
      obtain ⟨A', c', rfl, hc, hs⟩ := HR.out.1.slice
      refine ⟨ys, A', c', rfl, hc, hs, HR.out.1.2.1, ?_, HR.out.2.2⟩
      have := HR.out.2.1
      rw [List.take_of_length_le (by rw [HK.out.2.2]; exact Nat.le_refl _)] at this
      exact this
end Go.Proofs.Ytncpdjlladlalaa
