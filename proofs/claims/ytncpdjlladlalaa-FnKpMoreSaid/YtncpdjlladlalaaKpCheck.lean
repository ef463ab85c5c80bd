/- The walks of the law's looks at a keeper's rows: SamePoint, kpAsked, kpHeap. Conditions: as each says. -/
import Derived.Test.YtncpdjlladlalaaKpInc
namespace Go.Proofs.Ytncpdjlladlalaa
open Go.RowKit Lox
set_option linter.unusedVariables false
attribute [local go_sem] run_store_flt run_store_fn

set_option maxHeartbeats 1000000 in
theorem same_fk (A B : Option Addr) (n c c' : Nat) (xs ys : List Nat) (w : World) (ha : Sl w A n 1 (flts xs)) (hb : Sl w B n 1 (flts ys)) (hn : n ≤ 9223372036854775807) (hx : ∀ x ∈ xs, Lox.Fin x) (hy : ∀ y ∈ ys, Lox.Fin y) (he : xs.map fk = ys.map fk) :
    Calls Try.prog 12 #[.slice A n c, .slice B n c'] w fun e w' => e = .returned (.bool true) ∧ w = w' := by
  have hl : xs.length = n := by have := ha.1; simpa [flts] using this
  have hl2 : ys.length = n := by have := hb.1; simpa [flts] using this
  have HK := Lib.hid (And.intro ha (And.intro hb (And.intro hx (And.intro hy (And.intro he (And.intro hl hl2))))))
  clear ha hb hx hy he hl hl2
  go_enter Try.func12, Try.ntmps12
  go_wp2
  go_loop [14] (fun i => ∃ k : Nat, k ≤ n ∧ i = .int .i64 k) (fun i => n - (intOf i).toNat)
  case atStart => exact ⟨0, Nat.zero_le _, rfl⟩
  case round =>
    obtain ⟨k, hk, rfl⟩ := hrel
    by_cases hlt : k < n
    · obtain ⟨b, o, v, e1, e2, c1⟩ := HK.out.1.at1 hlt
      obtain ⟨b', o', v', e3, e4, c2⟩ := HK.out.2.1.at1 hlt
      have hk1 : k < xs.length := by have := HK.out.2.2.2.2.2.1; omega
      have hk2 : k < ys.length := by have := HK.out.2.2.2.2.2.2; omega
      rw [flts_getD hk1] at e2
      rw [flts_getD hk2] at e4
      cases e2
      cases e4
      have hxx : (FloatKind.f64.format.order (xs.getD k 0) (ys.getD k 0) != some .eq) = false := by
        have h1 := ord_eq (HK.out.2.2.1 (xs.getD k 0) (by simp [hk1])) (HK.out.2.2.2.1 (ys.getD k 0) (by simp [hk2]))
        have h2 : fk (xs.getD k 0) = fk (ys.getD k 0) := by
          have := congrArg (fun l => l[k]?) HK.out.2.2.2.2.1
          simp [hk1, hk2] at this
          simp [hk1, hk2, this]
        have h3 : (FloatKind.f64.format.order (xs.getD k 0) (ys.getD k 0) == some .eq) = true := by rw [h1]; exact decide_eq_true h2
        show (!(FloatKind.f64.format.order (xs.getD k 0) (ys.getD k 0) == some .eq)) = false
        rw [h3]
        rfl
      obtain ⟨x, ex⟩ : ∃ x, x = xs.getD k 0 := ⟨_, rfl⟩
      obtain ⟨y, ey⟩ : ∃ y, y = ys.getD k 0 := ⟨_, rfl⟩
      rw [← ex] at c1 hxx
      rw [← ey] at c2 hxx
      clear ex ey hk1 hk2
      subst e1 e3
      go_wp2
      go_round
      case rel => exact ⟨k + 1, by omega, by go_num⟩
      case measure => simp [intOf]; omega
    · obtain rfl : k = n := by omega
      go_wp2
      go_ret
      exact ⟨rfl, rfl⟩

/-- 1e300 and 2e300, by their bits. -/
def MOST : Nat := 9094988921128908188
def TWICE : Nat := 9099492520756278684

theorem fin_zero : Lox.Fin 0 := ⟨_, _, _, rfl⟩
theorem fin_most : Lox.Fin MOST := ⟨_, _, _, rfl⟩
theorem fin_twice : Lox.Fin TWICE := ⟨_, _, _, rfl⟩
theorem fin_neg1 : Lox.Fin NEG1 := ⟨_, _, _, rfl⟩
theorem neg1_lt : fk NEG1 < fk 0 := of_decide_eq_true ((ord_lt fin_neg1 fin_zero).symm.trans (by decide +kernel))
theorem most_lt : fk MOST < fk TWICE := of_decide_eq_true ((ord_lt fin_most fin_twice).symm.trans (by decide +kernel))

/-- A distance that is asked about. -/
def Dist (d : Nat) : Prop := Lox.Fin d ∧ fk NEG1 < fk d ∧ fk d < fk TWICE

theorem dist_of {d : Nat} (h1 : (FloatKind.f64.format.order d 0 == some .gt || FloatKind.f64.format.order d 0 == some .eq) = true) (h2 : (FloatKind.f64.format.order d MOST == some .lt || FloatKind.f64.format.order d MOST == some .eq) = true) : Dist d := by
  have hf := fin_between fin_zero fin_most h1 h2
  rw [ord_ge hf fin_zero] at h1
  rw [ord_le hf fin_most] at h2
  have h1 := of_decide_eq_true h1
  have h2 := of_decide_eq_true h2
  have := neg1_lt
  have := most_lt
  exact ⟨hf, by omega, by omega⟩

/-- A yes or no; if yes, the distances are such as are asked about. -/
def AskedTold (n : Nat) (xs : List Nat) (w : World) (e : Ending) (w' : World) : Prop := (∃ b, e = .returned (.bool b) ∧ (b = true → (∀ d ∈ xs, Dist d) ∧ n ≤ 60)) ∧ w = w'

set_option maxHeartbeats 1000000 in
theorem asked_at (A : Option Addr) (n c : Nat) (xs : List Nat) (w : World) (ha : Sl w A n 1 (flts xs)) (hn : n ≤ 2147483647) :
    Calls Try.prog 17 #[.slice A n c] w (AskedTold n xs w) := by
  have hl : xs.length = n := by have := ha.1; simpa [flts] using this
  have HK := Lib.hid (And.intro ha hl)
  clear ha hl
  go_enter Try.func17, Try.ntmps17
  go_wp2
  go_loop [7] (fun i => ∃ k : Nat, k ≤ n ∧ i = .int .i64 k ∧ Hid (∀ d ∈ xs.take k, Dist d)) (fun i => n - (intOf i).toNat)
  case atStart => exact ⟨0, Nat.zero_le _, rfl, by show ∀ d ∈ xs.take 0, Dist d; simp⟩
  case round =>
    obtain ⟨k, hk, rfl, HR⟩ := hrel
    by_cases hlt : k < n
    · obtain ⟨b, o, v, e1, e2, c1⟩ := HK.out.1.at1 hlt
      have hkd : k < xs.length := by rw [HK.out.2]; exact hlt
      rw [flts_getD hkd] at e2
      cases e2
      obtain ⟨d, ed⟩ : ∃ d, d = xs.getD k 0 := ⟨_, rfl⟩
      rw [← ed] at c1
      have hdk : xs[k]? = some d := by rw [ed]; simp [hkd]
      have HD := Lib.hid (take_snoc' hdk)
      clear ed hkd hdk
      subst e1
      obtain ⟨g1, hg1⟩ : ∃ g1 : Bool, (FloatKind.f64.format.order d 0 == some .gt || FloatKind.f64.format.order d 0 == some .eq) = g1 := ⟨_, rfl⟩
      obtain ⟨g2, hg2⟩ : ∃ g2 : Bool, (FloatKind.f64.format.order d 9094988921128908188 == some .lt || FloatKind.f64.format.order d 9094988921128908188 == some .eq) = g2 := ⟨_, rfl⟩
      have HG := Lib.hid (And.intro hg1 hg2)
      cases g1 <;> cases g2
      all_goals go_wp2
      all_goals first
        | (go_ret; exact ⟨⟨_, rfl, fun h => by cases h⟩, rfl⟩)
        | (go_round
           case rel =>
             refine ⟨k + 1, by omega, by go_num, ?_⟩
             show ∀ d ∈ xs.take (k + 1), Dist d
             rw [HD.out]
             intro z hz
             rcases List.mem_append.1 hz with h | h
             · exact HR.out z h
             · rw [List.mem_singleton.1 h]; exact dist_of HG.out.1 HG.out.2
           case measure => simp [intOf]; omega)
    · obtain rfl : k = n := by omega
      have hall : ∀ d ∈ xs, Dist d := by
        have := HR.out
        rw [List.take_of_length_le (by rw [HK.out.2]; exact Nat.le_refl _)] at this
        exact this
      have HA := Lib.hid hall
      clear hall
      by_cases h60 : k ≤ 60
      · have t1 : decide ((k : Int) ≤ 60) = true := decide_eq_true (by omega)
        go_wp2
        go_ret
        exact ⟨⟨_, rfl, fun _ => ⟨HA.out, h60⟩⟩, rfl⟩
      · have t1 : decide ((k : Int) ≤ 60) = false := decide_eq_false (by omega)
        go_wp2
        go_ret
        exact ⟨⟨_, rfl, fun h => by simp at h⟩, rfl⟩

def ofB (els : List El) (i : Nat) : Nat := match at' els i with
  | none => TWICE
  | some d => d

theorem shown_get {els : List El} {i : Nat} (h : i < els.length) : (els.map shown)[i]? = some (shown (at' els i)) := by
  unfold at'
  rw [List.getD_eq_getElem?_getD, List.getElem?_map, List.getElem?_eq_getElem h]
  rfl

theorem at_mem {els : List El} {i d : Nat} (h : i < els.length) (he : at' els i = some d) : some d ∈ els := by
  unfold at' at he
  rw [List.getD_eq_getElem?_getD, List.getElem?_eq_getElem h] at he
  rw [← (show els[i] = some d from he)]
  exact List.getElem_mem h

set_option maxHeartbeats 1000000 in
theorem kof_at (w : World) (H n c : Nat) (A : Option Addr) (els : List El) (i : Nat) (I : Int) (hI : I = i) (b0 : Blk w H 27 [.slice A n c]) (b1 : Blk w (H + 1) 28 [.float .f64 9099492520756278684]) (h : Sl w A n 1 (flts (els.map shown))) (hi : i < n) (hn : n ≤ 2147483647) (hd : ∀ d, some d ∈ els → Dist d) :
    Calls Try.prog 64 #[.int .i64 I, .pointer (some ⟨H, 0, none⟩), .pointer (some ⟨H + 1, 0, none⟩)] w fun e w' => e = .returned (.float .f64 (ofB els i)) ∧ w = w' := by
  subst hI
  have hel : els.length = n := by have := h.1; simpa [flts] using this
  obtain ⟨b, o, v, e1, e2, c1⟩ := h.at1 hi
  have hs := flts_at (shown_get (els := els) (i := i) (by omega))
  rw [hs] at e2
  cases e2
  have c0 := b0.at (i := 0) rfl
  have d0 := b1.at (i := 0) rfl
  have i1 : (0 : Int) ≤ i := by omega
  have i2 : (i : Int) < n := by omega
  subst e1
  cases hx : at' els i with
  | none =>
    rw [hx] at c1
    have ho : ofB els i = 9099492520756278684 := by unfold ofB; rw [hx]; rfl
    have hc : w.cell? ⟨b, o + i, none⟩ = some (.float .f64 13830554455654793216) := c1
    have hq : (FloatKind.f64.format.order 13830554455654793216 13830554455654793216 == some .eq) = true := by decide +kernel
    rw [ho]
    clear b0 b1 h hd hel hs c1 hx ho
    go_enter Try.func64, Try.ntmps64
    go_wp2
    go_ret
    exact ⟨rfl, rfl⟩
  | some d =>
    have hdd := hd d (at_mem (by omega) hx)
    rw [hx] at c1
    have ho : ofB els i = d := by unfold ofB; rw [hx]
    have hc : w.cell? ⟨b, o + i, none⟩ = some (.float .f64 d) := c1
    have hq : (FloatKind.f64.format.order d 13830554455654793216 == some .eq) = false := by
      have := ord_eq hdd.1 fin_neg1
      unfold NEG1 at this
      rw [this]
      refine decide_eq_false (fun h => ?_)
      have := hdd.2.1
      unfold NEG1 at this
      omega
    rw [ho]
    clear b0 b1 h hd hel hs c1 hx ho hdd
    go_enter Try.func64, Try.ntmps64
    go_wp2
    go_ret
    exact ⟨rfl, rfl⟩

theorem ofB_le {els : List El} {a b : El} (h : leE a b) (i j : Nat) (ha : at' els i = a) (hb : at' els j = b) (hd : ∀ d, some d ∈ els → Dist d) (hi : i < els.length) (hj : j < els.length) : (FloatKind.f64.format.order (ofB els j) (ofB els i) == some .lt) = false := by
  have hfi : Lox.Fin (ofB els i) := by
    unfold ofB
    cases hx : at' els i with
    | none => exact fin_twice
    | some d => exact (hd d (at_mem hi hx)).1
  have hfj : Lox.Fin (ofB els j) := by
    unfold ofB
    cases hx : at' els j with
    | none => exact fin_twice
    | some d => exact (hd d (at_mem hj hx)).1
  rw [ord_lt hfj hfi]
  refine decide_eq_false ?_
  unfold ofB
  rw [ha, hb]
  cases a with
  | none =>
    cases b with
    | none => simp
    | some e => exact absurd h (by simp [leE])
  | some d =>
    have hdd := hd d (at_mem hi ha)
    cases b with
    | none => have := hdd.2.2; show ¬ fk TWICE < fk d; omega
    | some e => have h' : fk d ≤ fk e := h; show ¬ fk e < fk d; omega

def SameW (W w' : World) : Prop := W = w'

set_option maxRecDepth 100000 in
set_option maxHeartbeats 4000000 in
theorem heap_yes (w : World) (A : Option Addr) (n c : Nat) (els : List El) (h : Sl w A n 1 (flts (els.map shown))) (hn : n ≤ 2147483647) (hd : ∀ d, some d ∈ els → Dist d) (hh : HeapN els els.length) :
    Calls Try.prog 44 #[.slice A n c, .float .f64 9099492520756278684] w fun e w' => e = .returned (.bool true) ∧ Mod (fun _ => False) w w' := by
  have hmf : ∀ (fn : Fn) (first cap : Array Value) (w : World), (Instr.makeFunc fn first cap).run Try.prog w = .ok (.func fn first cap) w := fun _ _ _ _ => rfl
  have hel : els.length = n := by have := h.1; simpa [flts] using this
  obtain ⟨H, hH⟩ : ∃ H, w.heap.size = H := ⟨_, rfl⟩
  obtain ⟨W, eW⟩ : ∃ W, W = (w.alloc (.cells #[.slice A n c] 27)).alloc (.cells #[.float .f64 9099492520756278684] 28) := ⟨_, rfl⟩
  have b0 : Blk W H 27 [.slice A n c] := by
    rw [eW]
    have := (Blk.new' w #[.slice A n c] 27).alloc (.cells #[.float .f64 9099492520756278684] 28)
    rw [hH] at this
    exact this
  have b1 : Blk W (H + 1) 28 [.float .f64 9099492520756278684] := by
    rw [eW]
    have := Blk.new' (w.alloc (.cells #[.slice A n c] 27)) #[.float .f64 9099492520756278684] 28
    rw [World.size_alloc, hH] at this
    exact this
  have hm : Mod (fun _ => False) w W := by rw [eW]; exact ((Mod.refl _ _).alloc _).alloc _
  have c0 := b0.at (i := 0) rfl
  have HK := Lib.hid (And.intro b0 (And.intro b1 (And.intro (h.mod hm) (And.intro hd (And.intro hh (And.intro hel hm))))))
  have HE := Lib.hid eW
  clear b0 b1 h hd hh hel hm eW
  go_enter Try.func44, Try.ntmps44
  go_wp2_with fail
  rw [← HE.out]
  go_loopw [6] (fun i w' => ∃ k : Nat, i = .int .i64 ((k + 1 : Nat) : Int) ∧ SameW W w') (fun i _ => n - (intOf i).toNat)
  case atStart => exact ⟨0, rfl, (rfl : W = W)⟩
  case round =>
    obtain ⟨k, rfl, hW⟩ := hrel
    obtain rfl : W = wr := hW
    have k0 : (0 : Int) ≤ k := by omega
    by_cases hlt : k + 1 < n
    · have hk2 : (k : Int) + 1 < n := by omega
      have hle := ofB_le (HK.out.2.2.2.2.1 (k + 1) (by omega) (by have := HK.out.2.2.2.2.2.1; omega)) (k + 1) (k / 2) rfl rfl HK.out.2.2.2.1 (by have := HK.out.2.2.2.2.2.1; omega) (by have := HK.out.2.2.2.2.2.1; omega)
      have tok1 : True := trivial
      obtain ⟨x, ex⟩ : ∃ x, x = ofB els (k / 2) := ⟨_, rfl⟩
      obtain ⟨y, ey⟩ : ∃ y, y = ofB els (k + 1) := ⟨_, rfl⟩
      rw [← ex, ← ey] at hle
      have HX := Lib.hid (And.intro ex ey)
      clear ex ey
      go_wp2_with (go_at_call 64; first
        | (have _t := tok1; clear _t tok1; refine (kof_at _ H n c A els (k / 2) ((k : Int) / 2) (by omega) HK.out.1 HK.out.2.1 HK.out.2.2.1 (by omega) hn HK.out.2.2.2.1).mono ?_; rw [← HX.out.1]; rintro _ _ ⟨rfl, rfl⟩)
        | (refine (kof_at _ H n c A els (k + 1) ((k : Int) + 1) (by omega) HK.out.1 HK.out.2.1 HK.out.2.2.1 hlt hn HK.out.2.2.2.1).mono ?_; rw [← HX.out.2]; rintro _ _ ⟨rfl, rfl⟩))
      go_roundw
      case rel => exact ⟨k + 1, by go_num, (rfl : W = W)⟩
      case measure => simp [intOf]; omega
    · have hk2 : ¬ (k : Int) + 1 < n := by omega
      go_wp2_with fail
      go_ret
      exact ⟨rfl, HK.out.2.2.2.2.2.2⟩
end Go.Proofs.Ytncpdjlladlalaa
