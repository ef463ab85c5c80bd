/- Steps of a proof, one behind another: The walk of build: the tree of the points in the window. Conditions: as each theorem says. -/
import Derived.Test.YtmeooadgdagiiaaGreatMw12
import Derived.Deep.RegionHeld3
import Derived.Deep.DrawnRows
import Derived.IntWalk

namespace Go.Proofs.YtmeooadgdagiiaaGreat
open Go.RowKit Lox
set_option linter.unusedVariables false
attribute [local go_sem] run_store_flt run_store_fn
attribute [local go_sem ↓] Go.wp_at_zero Go.wp_at_succ

/-- The window's points may be read, and lie neither in the array nor in the picks' variable. -/
def WinOk (w : World) (dims pb lc : Nat) (l : List TP) : Prop := (∀ p ∈ l, p.Okp w dims pb) ∧ ∀ p ∈ l, ∀ b o, p.A = some ⟨b, o, none⟩ → b ≠ lc

theorem WinOk.mod {w w' : World} {dims pb lc : Nat} {l : List TP} (h : WinOk w dims pb lc l) (hm : Mod (fun k => k = pb ∨ k = lc) w w') : WinOk w' dims pb lc l :=
  ⟨fun p hp => (h.1 p hp).mod hm (fun b o e => by rintro (h1 | h1); exact (h.1 p hp).2 b o e h1; exact h.2 p hp b o e h1), h.2⟩

theorem WinOk.sub {w : World} {dims pb lc : Nat} {l l' : List TP} (h : WinOk w dims pb lc l) (hs : ∀ p ∈ l', p ∈ l) : WinOk w dims pb lc l' := ⟨fun p hp => h.1 p (hs p hp), fun p hp => h.2 p (hs p hp)⟩

/-- What build tells: a tree, and how the list and the picks are left. -/
def BuildTold (dims pb lc fuel d : Nat) (A l B : List TP) (ks : List Nat) (w : World) (e : Ending) (w' : World) : Prop :=
  ∃ (v : Value) (mt : MT), e = .returned v ∧ mt.In w' v ∧ mt.T = (KB.build leB dims fuel l ks d).1 ∧ mt.gs.Nodup ∧ (∀ g ∈ mt.gs, w.heap.size ≤ g) ∧ mt.bare ∧
    (∃ l', l'.Perm l ∧ TPs w' pb (A ++ (l' ++ B))) ∧ PK w' lc pb (KB.build leB dims fuel l ks d).2 ∧ Mod (fun k => k = pb ∨ k = lc) w w'

theorem win_split {A m B : List TP} {i : Nat} {p : TP} (h : m[i]? = some p) : A ++ (m ++ B) = A ++ (m.take i ++ (p :: (m.drop (i + 1) ++ B))) := by
  conv => lhs; rw [← KB.split_at h]
  simp

theorem win_right {A l1 l2 B : List TP} {p : TP} : A ++ (l1 ++ (p :: (l2 ++ B))) = (A ++ l1 ++ [p]) ++ (l2 ++ B) := by simp

/-- The tree of both sides, and a node above them. -/
theorem build_end {dims pb lc fuel d i : Nat} {A l B m l1 l2 : List TP} {ks : List Nat} {w w4 w5 w6 w7 W : World} {p : TP} {lv rv : Value} {lt rt : MT} (hm0 : Mod (fun k => k = pb ∨ k = lc) w w4) (hpb : pb < w.heap.size) (hlc : lc < w.heap.size)
    (hl : lt.In w5 lv ∧ lt.gs.Nodup ∧ (∀ g ∈ lt.gs, w4.heap.size ≤ g) ∧ lt.bare) (h45 : Mod (fun k => k = pb ∨ k = lc) w4 w5) (h56 : Mod (fun _ => False) w5 w6)
    (hr : rt.In w7 rv ∧ rt.gs.Nodup ∧ (∀ g ∈ rt.gs, w6.heap.size ≤ g) ∧ rt.bare) (h67 : Mod (fun k => k = pb ∨ k = lc) w6 w7) (h7 : Mod (fun _ => False) w7 W)
    (hT : (MT.node w7.heap.size p d none lt rt).T = (KB.build leB dims fuel l ks d).1) (hb : Blk W w7.heap.size 84 (nodeCells p d lv rv none))
    (hp : m.Perm l) (hi : m[i]? = some p) (hp1 : l1.Perm (m.take i)) (hp2 : l2.Perm (m.drop (i + 1))) (ht : TPs w7 pb ((A ++ l1 ++ [p]) ++ (l2 ++ B))) (hK : PK w7 lc pb (KB.build leB dims fuel l ks d).2) (hne : lc ≠ pb) :
    BuildTold dims pb lc fuel d A l B ks w (.returned (.pointer (some ⟨w7.heap.size, 0, none⟩))) W := by
  have s4 := hm0.size
  have s5 := h45.size
  have s6 := h56.size
  have s7 := h67.size
  have h5W : Mod (fun k => k = pb ∨ k = lc) w5 W := ((h56.mono (fun _ _ h => h.elim)).trans h67).trans (h7.mono (fun _ _ h => h.elim))
  have ll := hl.1.lt
  have rl := hr.1.lt
  refine ⟨_, .node w7.heap.size p d none lt rt, rfl, ⟨rfl, lv, rv, hb, hl.1.mod h5W (fun k hk => ?_), hr.1.mod h7 (fun _ _ h => h)⟩, hT, ?_, ?_, ⟨rfl, hl.2.2.2, hr.2.2.2⟩, ⟨l1 ++ p :: l2, ?_, ?_⟩, hK.mod h7 (fun _ h => h.elim) hne, (hm0.trans h45).trans h5W⟩
  · have := hl.2.2.1 k hk
    rintro (h | h) <;> omega
  · show (w7.heap.size :: (lt.gs ++ rt.gs)).Nodup
    rw [List.nodup_cons, List.nodup_append]
    refine ⟨fun h => ?_, hl.2.1, hr.2.1, fun a ha b hb e => ?_⟩
    · rcases List.mem_append.1 h with h | h
      · have := ll _ h; omega
      · have := rl _ h; omega
    · have h1 := ll _ ha
      have h2 := hr.2.2.1 _ hb
      omega
  · intro g hg
    rcases List.mem_cons.1 hg with rfl | hg
    · omega
    · rcases List.mem_append.1 hg with hg | hg
      · have := hl.2.2.1 g hg; omega
      · have := hr.2.2.1 g hg; omega
  · have h := hp1.append (hp2.cons p)
    rw [KB.split_at hi] at h
    exact h.trans hp
  · have e : A ++ ((l1 ++ p :: l2) ++ B) = (A ++ l1 ++ [p]) ++ (l2 ++ B) := by simp
    rw [e]
    exact TPs.mod ht h7 (fun h => h)

set_option maxRecDepth 100000 in
set_option maxHeartbeats 8000000 in
theorem build_at (dims pb lc : Nat) (hne : lc ≠ pb) (hdm : 0 < dims ∧ dims ≤ 1099511627776) (fuel : Nat) :
    ∀ (w : World) (d n c : Nat) (D : Int) (X : Option Addr) (A l B : List TP) (ks : List Nat), D = d → l.length = n → n ≤ fuel → TPs w pb (A ++ (l ++ B)) → (0 < n → X = some ⟨pb, A.length, none⟩) → WinOk w dims pb lc l → PK w lc pb ks →
      (A ++ (l ++ B)).length ≤ 1099511627776 → n ≤ c → c ≤ 9223372036854775807 → d < dims →
      Calls Tryz.prog 31 #[.iface 48 (picksV (.slice X n c) lc), .int .i64 D] w (BuildTold dims pb lc fuel d A l B ks w) := by
  have m1 := kmeth_len
  have m2 := kmeth_pivot
  have m3 := kmeth_index
  have m4 := kmeth_slice
  have m5 := kmeth_dims
  have m6 := kahead_slice
  induction fuel with
  | zero =>
    intro w d n c D X A l B ks hD hn hf hT hX hW hK hl hc hc2 hd
    subst hD
    obtain rfl : n = 0 := by omega
    have HK := Lib.hid (And.intro hn (And.intro hT hK))
    clear hn hT hX hW hK hl
    go_enter Tryz.func31, Tryz.ntmps31
    go_wp2_with (go_at_call 82; refine (klen_at _ X 0 c lc).mono ?_; rintro _ w1 ⟨rfl, hm1⟩)
    go_ret
    have hm2 : Mod (fun k => k = pb ∨ k = lc) w w1 := hm1.mono (fun _ _ h => h.elim)
    have hl0 : l = [] := List.length_eq_zero_iff.1 HK.out.1
    subst hl0
    exact ⟨_, .nil, rfl, rfl, rfl, List.nodup_nil, fun g hg => (by cases hg), trivial, ⟨[], List.Perm.refl _, TPs.mod HK.out.2.1 hm1 (fun h => h)⟩, HK.out.2.2.mod hm1 (fun _ h => h.elim) hne, hm2⟩
  | succ fuel ih =>
    intro w d n c D X A l B ks hD hn hf hT hX hW hK hl hc hc2 hd
    subst hD
    by_cases hn0 : n = 0
    · subst hn0
      have HK := Lib.hid (And.intro hn (And.intro hT hK))
      clear hn hT hX hW hK hl ih
      go_enter Tryz.func31, Tryz.ntmps31
      go_wp2_with (go_at_call 82; refine (klen_at _ X 0 c lc).mono ?_; rintro _ w1 ⟨rfl, hm1⟩)
      go_ret
      have hm2 : Mod (fun k => k = pb ∨ k = lc) w w1 := hm1.mono (fun _ _ h => h.elim)
      have hl0 : l = [] := List.length_eq_zero_iff.1 HK.out.1
      subst hl0
      exact ⟨_, .nil, rfl, rfl, rfl, List.nodup_nil, fun g hg => (by cases hg), trivial, ⟨[], List.Perm.refl _, TPs.mod HK.out.2.1 hm1 (fun h => h)⟩, HK.out.2.2.mod hm1 (fun _ h => h.elim) hne, hm2⟩
    · have hp0 := KB.pick_lt n (by omega) ks
      obtain ⟨p, hp⟩ : ∃ p, l[(KB.pick l.length ks).1]? = some p := ⟨_, List.getElem?_eq_getElem (by rw [hn]; exact hp0)⟩
      obtain ⟨m, i, hpart, e1, e2, e3, e4, e5, e6, e7⟩ := KB.build_node leB dims fuel l ks d (by omega) p hp
      rw [hn] at hpart e1 e3 e7
      have hX' := hX (by omega)
      subst hX'
      have hnb : n ≤ 1099511627776 := by rw [List.length_append, List.length_append, hn] at hl; omega
      have HPIV : Hid (∀ w1 : World, Mod (fun _ => False) w w1 → Calls Tryz.prog 83 #[picksV (.slice (some ⟨pb, A.length, none⟩) n c) lc, .int .i64 d] w1 fun e w' => e = .returned (.int .i64 i) ∧ TPs w' pb (A ++ (m ++ B)) ∧ PK w' lc pb (KB.pick n ks).2 ∧ Mod (fun k => k = pb ∨ k = lc) w1 w') := by
        intro w1 hm
        have := kpivot_at w1 dims d pb n c lc d A l B ks rfl (TPs.mod hT hm (fun h => h)) (fun q hq => (hW.1 q hq).mod hm (fun _ _ _ h => h)) (hK.mod hm (fun _ h => h.elim) hne) hne hn (by omega) hl hc hd hdm.2 hW.2
        rw [hpart] at this
        exact this
      have hlb : A.length + n + B.length ≤ 1099511627776 := by rw [List.length_append, List.length_append, hn] at hl; omega
      have hmem : ∀ q ∈ m, q ∈ l := fun q hq => e2.mem_iff.1 hq
      have hdn := Nat.mod_lt (d + 1) hdm.1
      have HL : Hid (∀ (w2 w4 : World) (X : Option Addr) (D : Int), D = ((d + 1) % dims : Nat) → TPs w2 pb (A ++ (m ++ B)) → PK w2 lc pb (KB.pick n ks).2 → Mod (fun k => k = pb ∨ k = lc) w w2 → Mod (fun _ => False) w2 w4 → (0 < i → X = some ⟨pb, A.length, none⟩) →
          Calls Tryz.prog 31 #[.iface 48 (picksV (.slice X i c) lc), .int .i64 D] w4 (BuildTold dims pb lc fuel ((d + 1) % dims) A (m.take i) (p :: (m.drop (i + 1) ++ B)) (KB.pick n ks).2 w4)) := by
        intro w2 w4 X D hD h1 h2 h3 h4 h5
        refine ih w4 ((d + 1) % dims) i c D X A (m.take i) _ _ hD (by rw [List.length_take]; omega) (by omega) (by rw [← win_split e4]; exact TPs.mod h1 h4 (fun h => h)) h5 ((hW.mod (h3.trans (h4.mono (fun _ _ h => h.elim)))).sub (fun q hq => hmem q (List.mem_of_mem_take hq))) (h2.mod h4 (fun _ h => h.elim) hne) ?_ (by omega) hc2 hdn
        rw [← win_split e4, List.length_append, List.length_append, e1]; omega
      have HR : Hid (∀ (w5 w6 : World) (X : Option Addr) (D : Int) (l1 : List TP) (n' c' : Nat), n' = n - (i + 1) → c' = c - (i + 1) → D = ((d + 1) % dims : Nat) → l1.Perm (m.take i) → TPs w5 pb (A ++ (l1 ++ (p :: (m.drop (i + 1) ++ B)))) → PK w5 lc pb (KB.build leB dims fuel (m.take i) (KB.pick n ks).2 ((d + 1) % dims)).2 → Mod (fun k => k = pb ∨ k = lc) w w5 → Mod (fun _ => False) w5 w6 → (0 < n' → X = some ⟨pb, A.length + (i + 1), none⟩) →
          Calls Tryz.prog 31 #[.iface 48 (picksV (.slice X n' c') lc), .int .i64 D] w6 (BuildTold dims pb lc fuel ((d + 1) % dims) (A ++ l1 ++ [p]) (m.drop (i + 1)) B (KB.build leB dims fuel (m.take i) (KB.pick n ks).2 ((d + 1) % dims)).2 w6)) := by
        intro w5 w6 X D l1 n' c' hn' hc' hD hp1 h1 h2 h3 h4 h5
        subst hn' hc'
        have hll : l1.length = i := by rw [hp1.length_eq, List.length_take]; omega
        refine ih w6 ((d + 1) % dims) (n - (i + 1)) (c - (i + 1)) D X (A ++ l1 ++ [p]) (m.drop (i + 1)) B _ hD (by rw [List.length_drop]; omega) (by omega) (by rw [← win_right]; exact TPs.mod h1 h4 (fun h => h)) (fun h => by rw [h5 h, List.length_append, List.length_append, hll, List.length_singleton, Nat.add_assoc]) ((hW.mod (h3.trans (h4.mono (fun _ _ h => h.elim)))).sub (fun q hq => hmem q (List.mem_of_mem_drop hq))) (h2.mod h4 (fun _ h => h.elim) hne) ?_ (by omega) (by omega) hdn
        rw [List.length_append, List.length_append, List.length_append, List.length_append, List.length_drop, e1, hll, List.length_singleton]; omega
      have hpl := TPs.lt hT
      have hlcl : lc < w.heap.size := by obtain ⟨_, _, hb, _⟩ := hK; exact hb.lt
      have hWp : p.xs.length = dims := (hW.1 p (e2.mem_iff.1 (List.mem_of_getElem? e4))).1.1
      have HK := Lib.hid (And.intro hn (And.intro e1 (And.intro e2 (And.intro e4 (And.intro e7 (And.intro hW (And.intro hl (And.intro hWp e3))))))))
      have hn1 : ((n : Int) == 0) = false := by
        have : (n : Int) ≠ 0 := by omega
        simpa using this
      have hi0 : (i : Int) < n := by omega
      have hnp : ((d : Int) + 1) % (dims : Int) = (((d + 1) % dims : Nat) : Int) := by simp
      have HNP := Lib.hid hnp
      have hd0 : (d : Int) < dims := by omega
      have hdim0 : (0 : Int) < dims := by omega
      have hdim1 : ((dims : Int) == 0) = false := by
        have : (dims : Int) ≠ 0 := by omega
        simpa using this
      clear hnp hmem hn hf hT hX hW hK hl ih hp hpart e1 e2 e4 e5 e6 e7 hp0 hWp
      go_enter Tryz.func31, Tryz.ntmps31
      go_wp2_with (first
        | (go_at_call 82; refine (klen_at _ (some ⟨pb, A.length, none⟩) n c lc).mono ?_; rintro _ w1 ⟨rfl, hm1⟩; have HM1 := Lib.hid hm1; clear hm1)
        | (go_at_call 83; refine (HPIV.out _ HM1.out).mono ?_; rintro _ w2 ⟨rfl, hT2, hK2, hm2⟩; have HP2 := Lib.hid (And.intro hT2 (And.intro hK2 hm2)); clear hT2 hK2 hm2)
        | (go_at_call 81; refine (kindex_at _ pb A.length n c lc i dims _ (A ++ (m ++ B)) p rfl HK.out.2.2.2.2.2.2.2.1 HP2.out.1 e3 hnb (by rw [List.getElem?_append_right (by omega), Nat.add_sub_cancel_left, List.getElem?_append_left (by rw [HK.out.2.1]; exact e3)]; exact HK.out.2.2.2.1)).mono ?_; rintro _ w3 ⟨rfl, hm3⟩; have HM3 := Lib.hid hm3; clear hm3)
        | (go_at_call 100; refine (pdims_at _ p.A dims p.c).mono ?_; rintro _ _ ⟨rfl, rfl⟩))
      have hw1 : IntKind.i64.wrap ((i : Int) + 1) = (i : Int) + 1 := IntWalk.i64_in _ (by omega)
      have tok1 : True := trivial
      have tok2 : True := trivial
      have HP3 := Lib.hid (And.intro hpl (And.intro hlcl ((HM1.out.mono (fun _ _ h => h.elim) : Mod (fun k => k = pb ∨ k = lc) w w1).trans HP2.out.2.2)))
      go_region_held3 (fun _ => True) (trivial)
        (first
          | (go_at_call 84; have _t := tok1; clear _t tok1; refine (kslice_at _ (some ⟨pb, A.length, none⟩) n c lc 0 i i c _ _ rfl rfl rfl rfl (by omega) (by omega) hc hc2).mono ?_; rintro _ w4 ⟨⟨A4, rfl, hA4⟩, hm4⟩; have HM4 := Lib.hid (And.intro hA4 hm4); clear hA4 hm4)
          | (go_at_call 31; have _t := tok2; clear _t tok2; have HM34 : Hid (Mod (fun _ => False) w2 w4) := (by first | exact HM3.out.trans HM4.out.2 | exact HM3.out.drew.trans HM4.out.2); refine (HL.out _ _ A4 _ HNP.out HP2.out.1 HP2.out.2.1 HP3.out.2.2 HM34.out (fun h => HM4.out.1 h pb A.length rfl)).mono ?_; rintro _ w5 ⟨lv, lt, rfl, q1, q2, q3, q4, q5, ⟨l1, q6, q7⟩, q8, q9⟩; obtain ⟨ql, rfl⟩ := q1.ptr; have HQ := Lib.hid (And.intro q1 (And.intro q2 (And.intro q3 (And.intro q4 (And.intro q5 (And.intro q6 (And.intro q7 (And.intro q8 q9)))))))); clear q1 q2 q3 q4 q5 q6 q7 q8 q9)
          | (go_at_call 82; refine (klen_at _ (some ⟨pb, A.length, none⟩) n c lc).mono ?_; rintro _ w6 ⟨rfl, hm6⟩; have HM6 := Lib.hid hm6; clear hm6)
          | (go_at_call 84; refine (kslice_at _ (some ⟨pb, A.length, none⟩) n c lc (i + 1) n (n - (i + 1)) (c - (i + 1)) _ _ (by omega) rfl rfl rfl (by omega) (by omega) hc hc2).mono ?_; rintro _ w7 ⟨⟨A7, rfl, hA7⟩, hm7⟩; have HM7 := Lib.hid (And.intro hA7 hm7); clear hA7 hm7)
          | (go_at_call 31; have HM67 : Hid (Mod (fun _ => False) w5 w7) := (by first | exact HM6.out.trans HM7.out.2 | exact HM6.out.drew.trans HM7.out.2); refine (HR.out _ _ A7 _ l1 _ _ rfl rfl HNP.out HQ.out.2.2.2.2.2.1 HQ.out.2.2.2.2.2.2.1 HQ.out.2.2.2.2.2.2.2.1 ((HP3.out.2.2.trans (HM34.out.mono (fun _ _ h => h.elim))).trans HQ.out.2.2.2.2.2.2.2.2) HM67.out (fun h => HM7.out.1 (by omega) pb A.length rfl)).mono ?_; rintro _ w8 ⟨rv, rt, rfl, q1, q2, q3, q4, q5, ⟨l2, q6, q7⟩, q8, q9⟩; obtain ⟨qr, rfl⟩ := q1.ptr; have HQ2 := Lib.hid (And.intro q1 (And.intro q2 (And.intro q3 (And.intro q4 (And.intro q5 (And.intro q6 (And.intro q7 (And.intro q8 q9)))))))); clear q1 q2 q3 q4 q5 q6 q7 q8 q9))
      all_goals
        go_wp2
        go_ret
        refine build_end (w4 := w4) (w5 := w5) (w6 := w7) (w7 := w8) (m := m) (i := i) (l1 := l1) (l2 := l2) (p := p) (lv := .pointer ql) (rv := .pointer qr) (lt := lt) (rt := rt) (HP3.out.2.2.trans (HM34.out.mono (fun _ _ h => h.elim))) hpl hlcl ⟨HQ.out.1, HQ.out.2.2.1, HQ.out.2.2.2.1, HQ.out.2.2.2.2.1⟩ HQ.out.2.2.2.2.2.2.2.2 HM67.out
          ⟨HQ2.out.1, HQ2.out.2.2.1, HQ2.out.2.2.2.1, HQ2.out.2.2.2.2.1⟩ HQ2.out.2.2.2.2.2.2.2.2 ((Mod.refl _ _).alloc _) ?_ ?_ HK.out.2.2.1 HK.out.2.2.2.1 HQ.out.2.2.2.2.2.1 HQ2.out.2.2.2.2.2.1 HQ2.out.2.2.2.2.2.2.1 ?_ hne
        · rw [HK.out.2.2.2.2.1]
          show KB.T.node p d lt.T rt.T = _
          rw [HQ.out.2.1, HQ2.out.2.1]
        · unfold nodeCells TP.v
          rw [HK.out.2.2.2.2.2.2.2.1]
          exact Blk.new' _ _ _
        · rw [HK.out.2.2.2.2.1]
          exact HQ2.out.2.2.2.2.2.2.2.1
end Go.Proofs.YtmeooadgdagiiaaGreat
