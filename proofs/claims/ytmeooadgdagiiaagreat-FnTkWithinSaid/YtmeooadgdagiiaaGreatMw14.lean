/- Steps of a proof, one behind another: The walks of New, Insert and Len of a k-d tree, without boxes. The walk of KBuild without boxes. The walk of KNearest. What the searches for some points tell, in plain Lean. The n nearest, the n + 1 nearest and those within a distance, in plain Lean. The walks of withNumber and SquaresTo. Conditions: as each theorem says. -/
import Derived.Test.YtmeooadgdagiiaaGreatMw13
import Derived.Deep.RegionHeld3
import Derived.Deep.DrawnRows

namespace Go.Proofs.YtmeooadgdagiiaaGreat
open Go.RowKit Lox
set_option linter.unusedVariables false
attribute [local go_sem] run_store_flt run_store_fn

theorem run_assert_bd (S : Value) (lc : Nat) (w : World) : (Instr.typeAssert (.iface 48 (picksV S lc)) 73 75 true).run Tryz.prog w = .ok (.tuple #[.iface 48 (picksV S lc), .bool true]) w := by kernel_rfl
theorem run_assert_ext (A : Option Addr) (n c : Nat) (w : World) : (Instr.typeAssert (.iface 50 (.slice A n c)) 81 86 true).run Tryz.prog w = .ok (.tuple #[.iface 50 (.slice A n c), .bool true]) w := by kernel_rfl

/-- A tree's struct, and its nodes. -/
structure TrIn (w : World) (dims tb n : Nat) (mt : MT) : Prop where
  tree : ∃ v, Blk w tb 56 [v, .int .i64 n] ∧ mt.In w v
  nodup : mt.gs.Nodup
  apart : tb ∉ mt.gs
  bare : mt.bare
  each : mt.T.Each (fun _ d => d < dims)
  pts : ∀ p ∈ mt.pts, p.Ok w dims ∧ p.Gr

/-- What New tells. -/
def NewTold (dims pb lc n : Nat) (l : List TP) (ks : List Nat) (w : World) (e : Ending) (w' : World) : Prop :=
  ∃ (tb : Nat) (mt : MT), e = .returned (.pointer (some ⟨tb, 0, none⟩)) ∧ TrIn w' dims tb n mt ∧ mt.T = (KB.build leB dims n l ks 0).1 ∧ w.heap.size ≤ tb ∧ (∀ g ∈ mt.gs, w.heap.size ≤ g) ∧ Mod (fun k => k = pb ∨ k = lc) w w'

theorem new_end {dims pb lc n : Nat} {l : List TP} {ks : List Nat} {w w1 w2 : World} {v : Value} {mt : MT} (hd : 0 < dims) (hl : l.length ≤ n) (hW : WinOk w dims pb lc l) (hg : ∀ p ∈ l, p.Gr)
    (h1 : mt.In w1 v) (h2 : mt.T = (KB.build leB dims n l ks 0).1) (h3 : mt.gs.Nodup) (h4 : ∀ g ∈ mt.gs, w.heap.size ≤ g) (h5 : mt.bare) (h6 : Mod (fun k => k = pb ∨ k = lc) w w1) (h12 : Mod (fun _ => False) w1 w2) :
    NewTold dims pb lc n l ks w (.returned (.pointer (some ⟨w2.heap.size, 0, none⟩))) (w2.alloc (.cells #[v, .int .i64 n] 56)) := by
  have s6 := h6.size
  have s12 := h12.size
  have hin : mt.In w2 v := h1.mod h12 (fun _ _ h => h)
  have hlt := hin.lt
  obtain ⟨a1, a2, a3⟩ := KB.build_all leB dims hd n l ks 0 hl hd
  have hm2 : Mod (fun k => k = pb ∨ k = lc) w (w2.alloc (.cells #[v, .int .i64 n] 56)) := (h6.trans (h12.mono (fun _ _ h => h.elim))).alloc _
  refine ⟨w2.heap.size, mt, rfl, ⟨⟨v, Blk.new' _ _ _, hin.mod ((Mod.refl (fun _ => False) w2).alloc _) (fun _ _ h => h)⟩, h3, fun h => ?_, h5, by rw [h2]; exact a3, fun p hp => ?_⟩, h2, by omega, h4, hm2⟩
  · have := hlt _ h; omega
  · rw [MT.pts_all, h2] at hp
    have hp := a1.mem_iff.1 hp
    exact ⟨((hW.mod hm2).1 p hp).1, hg p hp⟩

set_option maxHeartbeats 2000000 in
theorem build0_at (w : World) (c lc : Nat) (X : Option Addr) :
    Calls Tryz.prog 31 #[.iface 48 (picksV (.slice X 0 c) lc), .int .i64 0] w fun e w' => e = .returned (.pointer none) ∧ Mod (fun _ => False) w w' := by
  have m1 := kmeth_len
  go_enter Tryz.func31, Tryz.ntmps31
  go_wp2_with (go_at_call 82; refine (klen_at _ X 0 c lc).mono ?_; rintro _ w1 ⟨rfl, hm1⟩)
  go_ret
  exact ⟨rfl, hm1⟩

/-- What New asks of build. -/
def Built (dims pb lc n : Nat) (l : List TP) (ks : List Nat) (w : World) (e : Ending) (w' : World) : Prop :=
  ∃ (v : Value) (mt : MT), e = .returned v ∧ mt.In w' v ∧ mt.T = (KB.build leB dims n l ks 0).1 ∧ mt.gs.Nodup ∧ (∀ g ∈ mt.gs, w.heap.size ≤ g) ∧ mt.bare ∧ Mod (fun k => k = pb ∨ k = lc) w w'

set_option maxRecDepth 100000 in
set_option maxHeartbeats 4000000 in
theorem new_at (w : World) (dims pb lc n c : Nat) (X : Option Addr) (l : List TP) (ks : List Nat) (hne : lc ≠ pb) (hdm : 0 < dims ∧ dims ≤ 1099511627776) (hn : l.length = n) (hX : 0 < n → X = some ⟨pb, 0, none⟩ ∧ TPs w pb l) (hW : WinOk w dims pb lc l) (hg : ∀ p ∈ l, p.Gr) (hK : PK w lc pb ks)
    (hl : n ≤ 1099511627776) (hc : n ≤ c) (hc2 : c ≤ 9223372036854775807) :
    Calls Tryz.prog 15 #[.iface 48 (picksV (.slice X n c) lc), .bool false] w (NewTold dims pb lc n l ks w) := by
  have m1 := kmeth_len
  have ma := run_assert_bd
  have HB : Hid (∀ w1 : World, w1 = w → Calls Tryz.prog 31 #[.iface 48 (picksV (.slice X n c) lc), .int .i64 0] w1 (Built dims pb lc n l ks w)) := by
    intro w1 hw
    subst hw
    by_cases hn0 : n = 0
    · subst hn0
      have hl0 : l = [] := List.length_eq_zero_iff.1 hn
      subst hl0
      exact (build0_at w1 c lc X).mono fun e w' ⟨he, hm⟩ => ⟨_, .nil, he, rfl, rfl, List.nodup_nil, fun g hg => (by cases hg), trivial, hm.mono (fun _ _ h => h.elim)⟩
    obtain ⟨hX1, hT⟩ := hX (by omega)
    have hb := build_at dims pb lc hne hdm n w1 0 n c 0 X [] l [] ks rfl hn (Nat.le_refl _) (by simpa using hT) (fun h => hX1) hW hK (by simpa [hn] using hl) hc hc2 hdm.1
    exact hb.mono fun e w' ⟨v, mt, q0, q1, q2, q3, q4, q5, _, _, q9⟩ => ⟨v, mt, q0, q1, q2, q3, q4, q5, q9⟩
  have HK := Lib.hid (And.intro hn (And.intro hW hg))
  clear hn hX hW hg hK
  go_enter Tryz.func15, Tryz.ntmps15
  go_wp2_with (first
    | (go_at_call 31; refine (HB.out _ rfl).mono ?_; rintro _ w1 ⟨v, mt, rfl, q1, q2, q3, q4, q5, q9⟩; obtain ⟨qv, rfl⟩ := q1.ptr; have HQ := Lib.hid (And.intro q1 (And.intro q2 (And.intro q3 (And.intro q4 (And.intro q5 q9))))); clear q1 q2 q3 q4 q5 q9)
    | (go_at_call 82; refine (klen_at _ X n c lc).mono ?_; rintro _ w2 ⟨rfl, hm2⟩; have HM2 := Lib.hid hm2; clear hm2))
  go_ret
  exact new_end hdm.1 (by rw [HK.out.1]; exact Nat.le_refl _) HK.out.2.1 HK.out.2.2 HQ.out.1 HQ.out.2.1 HQ.out.2.2.1 HQ.out.2.2.2.1 HQ.out.2.2.2.2.1 HQ.out.2.2.2.2.2 HM2.out

/-- What Insert tells. -/
def TInsTold (dims tb n : Nat) (q : TP) (mt : MT) (w : World) (e : Ending) (w' : World) : Prop :=
  ∃ mt' : MT, e = .returned (.tuple #[]) ∧ TrIn w' dims tb (n + 1) mt' ∧ mt'.T = KB.ins leB dims q 0 mt.T ∧ (∀ g ∈ mt'.gs, g ∈ mt.gs ∨ w.heap.size ≤ g) ∧ Mod (fun k => k = tb ∨ k ∈ mt.gs) w w'

theorem tins_end {dims tb n : Nat} {q : TP} {mt mt' : MT} {w w1 : World} {v v' : Value} (hd : 0 < dims) (hb : Blk w tb 56 [v, .int .i64 n]) (hT : TrIn w dims tb n mt) (hq : q.Ok w dims) (hg : q.Gr)
    (h1 : mt'.In w1 v') (h2 : mt'.T = KB.ins leB dims q 0 mt.T) (h3 : mt'.gs.Nodup) (h4 : ∀ g ∈ mt'.gs, g ∈ mt.gs ∨ w.heap.size ≤ g) (h5 : mt.bare → mt'.bare) (h6 : Mod (fun k => k ∈ mt.gs) (w.setCell ⟨tb, 1, none⟩ (.int .i64 ((n : Int) + 1))) w1) :
    TInsTold dims tb n q mt w (.returned (.tuple #[])) (w1.setCell ⟨tb, 0, none⟩ v') := by
  have htb := hb.lt
  have hm0 : Mod (fun k => k = tb ∨ k ∈ mt.gs) w (w.setCell ⟨tb, 1, none⟩ (.int .i64 ((n : Int) + 1))) := (Mod.refl _ _).set (.inl (.inl rfl)) _
  have hm1 : Mod (fun k => k = tb ∨ k ∈ mt.gs) w w1 := hm0.trans (h6.mono (fun _ _ h => .inr h))
  have hm2 : Mod (fun k => k = tb ∨ k ∈ mt.gs) w (w1.setCell ⟨tb, 0, none⟩ v') := hm1.set (.inl (.inl rfl)) _
  have hb1 : Blk w1 tb 56 [v, .int .i64 ((n : Int) + 1)] := (hb.set 1 (.int .i64 ((n : Int) + 1))).mod h6 hT.apart
  have hap : tb ∉ mt'.gs := fun h => by
    rcases h4 tb h with h | h
    · exact hT.apart h
    · omega
  obtain ⟨v0, hb0, hin0⟩ := hT.tree
  refine ⟨mt', rfl, ⟨⟨v', ?_, h1.keep fun k hk _ => Below.heap_setCell _ _ _ _ (fun (e : k = tb) => hap (e ▸ hk))⟩, h3, hap, h5 hT.bare, by rw [h2]; exact KB.ins_each leB dims hd q _ 0 hd hT.each, fun p hp => ?_⟩, h2, h4, hm2⟩
  · have := hb1.set 0 v'
    exact this
  · rw [MT.pts_all, h2] at hp
    have hp := (KB.ins_perm leB dims q mt.T 0).mem_iff.1 hp
    have hnf : ∀ k, k < w.heap.size → (k = tb ∨ k ∈ mt.gs) → NoFlt w k := fun k _ hk => by
      rcases hk with rfl | hk
      · intro o x hc
        rw [hb0.cell] at hc
        obtain ⟨q0, rfl⟩ := hin0.ptr
        have := List.mem_of_getElem? hc
        simp at this
      · exact hin0.noFlt k hk
    rcases List.mem_cons.1 hp with rfl | hp
    · exact ⟨hq.noFlt hm2 hnf, hg⟩
    · rw [← MT.pts_all] at hp
      exact ⟨(hT.pts p hp).1.noFlt hm2 hnf, (hT.pts p hp).2⟩

set_option maxRecDepth 100000 in
set_option maxHeartbeats 4000000 in
theorem tinsert_at (w : World) (dims tb n : Nat) (q : TP) (mt : MT) (hdm : 0 < dims ∧ dims ≤ 1099511627776) (hT : TrIn w dims tb n mt) (hq : q.Ok w dims) (hg : q.Gr) (hn : n ≤ 4294967296) :
    Calls Tryz.prog 17 #[.pointer (some ⟨tb, 0, none⟩), .iface 50 (.slice q.A dims q.c), .bool false] w (TInsTold dims tb n q mt w) := by
  have ma := run_assert_ext
  obtain ⟨v, hb, hin⟩ := hT.tree
  obtain ⟨qv, rfl⟩ := hin.ptr
  have c0 := hb.at (i := 0) rfl
  have c1 := hb.at (i := 1) rfl
  have f0 := hb.frozen 0
  have f1 := hb.frozen 1
  have hw1 : IntKind.i64.wrap ((n : Int) + 1) = (n : Int) + 1 := IntWalk.i64_in _ (by omega)
  have hnf : ∀ k, k < w.heap.size → k = tb → NoFlt w k := fun k _ hk => by
    subst hk
    intro o x hc
    rw [hb.cell] at hc
    have := List.mem_of_getElem? hc
    simp at this
  have hm0 : Mod (fun k => k = tb) w (w.setCell ⟨tb, 1, none⟩ (.int .i64 ((n : Int) + 1))) := (Mod.refl (fun k => k = tb) w).set (p := ⟨tb, 1, none⟩) (.inl rfl) _
  have HINS : Hid (Calls Tryz.prog 33 #[.pointer qv, .iface 50 (.slice q.A dims q.c), .int .i64 0] (w.setCell ⟨tb, 1, none⟩ (.int .i64 ((n : Int) + 1))) (InsTold dims 0 q mt (w.setCell ⟨tb, 1, none⟩ (.int .i64 ((n : Int) + 1))))) :=
    insert_at dims hdm q hg mt _ (.pointer qv) 0 0 rfl (hin.mod hm0 (fun k hk (e : k = tb) => hT.apart (e ▸ hk))) hT.nodup (hq.noFlt hm0 hnf) (fun p hp => ⟨(hT.pts p hp).1.noFlt hm0 hnf, (hT.pts p hp).2⟩) hT.each
  have hroot : ∀ g p d bx l r, mt = .node g p d bx l r → qv = some ⟨g, 0, none⟩ ∧ w.cell? ⟨g, 4, none⟩ = some (.pointer none) ∧ g ≠ tb := by
    intro g p d bx l r e
    subst e
    obtain ⟨hv, lv, rv, hbn, _⟩ := hin
    injection hv with hv
    have hbx : bx = none := hT.bare.1
    subst hbx
    exact ⟨hv, hbn.at (i := 4) rfl, fun e => hT.apart (by rw [← e]; simp [MT.gs])⟩
  have hnil : mt = .nil → qv = none := fun e => by
    subst e
    have hv : Value.pointer qv = .pointer none := hin
    injection hv
  have HK := Lib.hid (And.intro hb (And.intro hT (And.intro hq hg)))
  have END : Hid (∀ (e : Ending) (w1 : World), InsTold dims 0 q mt (w.setCell ⟨tb, 1, none⟩ (.int .i64 ((n : Int) + 1))) e w1 → ∃ qw, e = .returned (.pointer qw) ∧ w1.cell? ⟨tb, 0, none⟩ = some (.pointer qv) ∧ w1.frozen? ⟨tb, 0, none⟩ = false ∧ TInsTold dims tb n q mt w (.returned (.tuple #[])) (w1.setCell ⟨tb, 0, none⟩ (.pointer qw))) := by
    rintro e w1 ⟨v', mt', rfl, i1, i2, i3, i4, i5, i6⟩
    obtain ⟨qw, rfl⟩ := i1.ptr
    have hb1 := (hb.set 1 (.int .i64 ((n : Int) + 1))).mod i6 hT.apart
    exact ⟨qw, rfl, hb1.at (i := 0) rfl, hb1.frozen 0, tins_end hdm.1 hb hT hq hg i1 i2 i3 (fun g hgg => by rcases i4 g hgg with h | h; exact .inl h; exact .inr (by simpa [World.setCell] using h)) i5 i6⟩
  clear hb hin hT hq hg hnf hm0
  cases mt with
  | nil =>
    obtain rfl := hnil rfl
    clear hroot hnil
    go_enter Tryz.func17, Tryz.ntmps17
    go_wp2_with (go_at_call 33; refine HINS.out.mono ?_; rintro e w1 he; obtain ⟨qw, rfl, y0, z0, hend⟩ := END.out _ _ he; have HE := Lib.hid hend; clear hend he)
    exact bodyPost_end (by simp [results, Tryz.results17, go_sem]) rfl HE.out
  | node g p d bx l r =>
    obtain ⟨e0, c4, hgt⟩ := hroot g p d bx l r rfl
    subst e0
    clear hroot hnil
    have hgt' : tb ≠ g := Ne.symm hgt
    go_enter Tryz.func17, Tryz.ntmps17
    go_wp2_with (go_at_call 33; refine HINS.out.mono ?_; rintro e w1 he; obtain ⟨qw, rfl, y0, z0, hend⟩ := END.out _ _ he; have HE := Lib.hid hend; clear hend he)
    exact bodyPost_end (by simp [results, Tryz.results17, go_sem]) rfl HE.out

set_option maxHeartbeats 1000000 in
theorem tlen_at (w : World) (tb n : Nat) (v : Value) (hb : Blk w tb 56 [v, .int .i64 n]) :
    Calls Tryz.prog 20 #[.pointer (some ⟨tb, 0, none⟩)] w fun e w' => e = .returned (.int .i64 n) ∧ w = w' := by
  have c1 := hb.at (i := 1) rfl
  clear hb
  go_enter Tryz.func20, Tryz.ntmps20
  go_wp2
  go_ret
  exact ⟨rfl, rfl⟩
end Go.Proofs.YtmeooadgdagiiaaGreat

namespace Go.Proofs.YtmeooadgdagiiaaGreat
open Go.RowKit Lox
set_option linter.unusedVariables false
attribute [local go_sem] run_store_flt run_store_fn
attribute [local go_sem ↓] Go.wp_at_zero Go.wp_at_succ

theorem catch_idle3 (p q r : Addr) (w : World) :
    CallsD Tryz.prog 13 #[.pointer (some p), .pointer (some q), .pointer (some r)] .returning w fun e u' w' => e = .returned (.tuple #[]) ∧ u' = .returning ∧ w' = w := by
  refine callsD_of_wpS Tryz.func13 rfl fun c₀ cs hu => ?_
  apply wpS_seq
  apply wpS_region
  simp [wpOpsS, go_sem, recoverD, hu, Tryz.ntmps13, Exit.thenS]
  refine wpS_cond (t := false) (by simp [Act.eval, Array.replicate]) ?_
  simp only [Bool.false_eq_true, if_false]
  refine wpS_of_wp (wp_skip ?_)
  cases c₀
  simp_all [bodyPostS, results, Tryz.results13]

theorem init3 (w : World) (H : Nat) (hH : w.heap.size = H) : ∃ W, W = (((w.alloc (.cells #[.slice none 0 0] 29)).alloc (.cells #[.int .i64 0] 3)).alloc (.cells #[.bool false] 4)) ∧ W.heap.size = H + 3 ∧ Mod (fun _ => False) w W ∧
    Blk W H 29 [.slice none 0 0] ∧ Blk W (H + 1) 3 [.int .i64 0] ∧ Blk W (H + 2) 4 [.bool false] := by
  have hs : ∀ (w : World) (o : Obj) (k : Nat), w.heap.size = k → (w.alloc o).heap.size = k + 1 := fun w o k h => by rw [World.size_alloc, h]
  have s1 := hs w (.cells #[.slice none 0 0] 29) H hH
  have s2 := hs _ (.cells #[.int .i64 0] 3) _ s1
  have s3 := hs _ (.cells #[.bool false] 4) _ s2
  have nb : ∀ (w : World) (k : Nat) (c : Array Value) (T : TypeId), w.heap.size = k → Blk (w.alloc (.cells c T)) k T c.toList := fun w k c T h => by subst h; exact Blk.new' w c T
  refine ⟨_, rfl, s3, (((Mod.refl _ _).alloc _).alloc _).alloc _, ?_, ?_, ?_⟩
  · exact ((nb w H _ _ hH).alloc _).alloc _
  · exact (nb _ _ _ _ s1).alloc _
  · exact nb _ _ _ _ s2

/-- What the tree is behind k inserted points. -/
structure BS (W w' : World) (dims H tb n : Nat) (t0 : KB.T TP) (ins : List TP) (k : Nat) (mt : MT) (is : List TP) : Prop where
  tin : TrIn w' dims tb (n + k) mt
  tree : mt.T = KB.inss leB dims t0 is
  same : is.map TP.xs = (ins.take k).map TP.xs
  gr : ∀ p ∈ is, p.Gr
  low : H ≤ tb ∧ ∀ g ∈ mt.gs, H ≤ g
  mod : Mod (fun _ => False) W w'

theorem BS.step {W wr w1 w2 : World} {dims H tb n k : Nat} {t0 : KB.T TP} {ins is : List TP} {mt : MT} {q p : TP} (h : BS W wr dims H tb n t0 ins k mt is) (hH : W.heap.size = H) (hp : q.xs = p.xs) (hk : ins.take (k + 1) = ins.take k ++ [p]) (hg : q.Gr) (h1 : Mod (fun _ => False) wr w1)
    {e : Ending} (ht : TInsTold dims tb (n + k) q mt w1 e w2) : e = .returned (.tuple #[]) ∧ ∃ mt', BS W w2 dims H tb n t0 ins (k + 1) mt' (is ++ [q]) := by
  obtain ⟨mt', he, a1, a2, a3, a4⟩ := ht
  have s1 := h1.size
  have s0 := h.mod.size
  refine ⟨he, mt', ⟨a1, by rw [a2, h.tree, KB.inss_snoc], by rw [List.map_append, h.same, hk, List.map_append]; simp [hp], fun x hx => ?_, ⟨h.low.1, fun g hg => ?_⟩, (h.mod.trans h1).trans' a4 fun i hi hi2 => ?_⟩⟩
  · rcases List.mem_append.1 hx with hx | hx
    · exact h.gr x hx
    · rw [List.mem_singleton.1 hx]; exact hg
  · rcases a3 g hg with h2 | h2
    · exact h.low.2 g h2
    · omega
  · rcases hi2 with h2 | h2
    · have := h.low.1; omega
    · have := h.low.2 i h2; omega

/-- What KBuild tells. -/
def KbTold (dims n m : Nat) (ps ins : List TP) (ks : List Nat) (w : World) (e : Ending) (w' : World) : Prop :=
  ∃ (v : Value) (rs : List KR) (mt : MT) (qs is : List TP), e = .returned (.tuple #[v, .int .i64 ((n + m : Nat) : Int), .bool true]) ∧ KS w.heap.size w' dims v rs ∧ rs.map KR.plain = mt.flat 0 ∧ mt.T = KB.inss leB dims (KB.build leB dims n qs ks 0).1 is ∧ mt.bare ∧
    qs.map TP.xs = ps.map TP.xs ∧ is.map TP.xs = ins.map TP.xs ∧ Mod (fun _ => False) w w' ∧ (∃ A c, v = .slice A rs.length c)

theorem gr_same {ps qs : List TP} (h : qs.map TP.xs = ps.map TP.xs) (hg : ∀ p ∈ ps, p.Gr) : ∀ q ∈ qs, q.Gr := by
  intro q hq
  have : q.xs ∈ ps.map TP.xs := by rw [← h]; exact List.mem_map_of_mem hq
  obtain ⟨p, hp, e⟩ := List.mem_map.1 this
  have := hg p hp
  unfold TP.Gr TP.n at *
  rw [← e]
  exact this

/-- What stands ahead of New. -/
theorem kb_ready {w4 w6 : World} {dims pb nk : Nat} {A4 : Option Addr} {c4 : Nat} {ks : List Nat} {qs : List TP} (hnk : ks.length = nk) (h4 : Sl w4 A4 nk 1 (ints (ks.map Int.ofNat))) (hc : nk ≤ c4 ∧ c4 ≤ 9223372036854775807) (hks : ∀ k ∈ ks, k ≤ 9223372036854775807)
    (h6 : Mod (fun _ => False) (w4.alloc (.cells #[.slice A4 nk c4] 23)) w6) (hpb : (w4.alloc (.cells #[.slice A4 nk c4] 23)).heap.size ≤ pb) (hq : ∀ p ∈ qs, p.Okp w6 dims pb ∧ ∀ b o, p.A = some ⟨b, o, none⟩ → (w4.alloc (.cells #[.slice A4 nk c4] 23)).heap.size ≤ b) :
    w4.heap.size ≠ pb ∧ WinOk w6 dims pb w4.heap.size qs ∧ PK w6 w4.heap.size pb ks := by
  subst hnk
  rw [World.size_alloc] at hpb hq
  refine ⟨by omega, ⟨fun p hp => (hq p hp).1, fun p hp b o e => by have := (hq p hp).2 b o e; omega⟩, A4, c4, (Blk.new' w4 _ _).mod h6 (fun h => h), (h4.alloc _).mod h6, hc.1, hc.2, hks, fun h0 b o e => ?_⟩
  have := h4.far (by omega) h0 b o e
  constructor <;> omega

theorem gr_xs {p q : TP} (h : p.Gr) (e : q.xs = p.xs) : q.Gr := by
  unfold TP.Gr TP.n at *
  rw [e]
  exact h

theorem TrIn.mod {w w' : World} {dims tb n : Nat} {mt : MT} (h : TrIn w dims tb n mt) (hm : Mod (fun _ => False) w w') : TrIn w' dims tb n mt := by
  obtain ⟨v, hb, hin⟩ := h.tree
  exact ⟨⟨v, hb.mod hm (fun h => h), hin.mod hm (fun _ _ h => h)⟩, h.nodup, h.apart, h.bare, h.each, fun p hp => ⟨(h.pts p hp).1.mod0 hm, (h.pts p hp).2⟩⟩

theorem MT.count_pts : ∀ t : MT, t.pts.length = t.count := by
  intro t
  induction t with
  | nil => rfl
  | node g p d bx l r ihl ihr => simp only [MT.pts, MT.count, List.length_append, List.length_cons, ihl, ihr]; omega

theorem kb_count {dims : Nat} {t0 : KB.T TP} {mt : MT} {is : List TP} (h : mt.T = KB.inss leB dims t0 is) : mt.count = t0.all.length + is.length := by
  rw [← MT.count_pts, MT.pts_all, h, (KB.inss_perm leB dims is t0).length_eq, List.length_append]

theorem kb_size {dims n : Nat} {ks : List Nat} {qs : List TP} (hd : 0 < dims) (hl : qs.length = n) : (KB.build leB dims n qs ks 0).1.all.length = n := by
  rw [(KB.build_all leB dims hd n qs ks 0 (by omega) hd).1.length_eq, hl]

theorem KS.keepB {B B' : Nat} {w W : World} {dims : Nat} {v : Value} {rs : List KR} (h : KS B w dims v rs) (hk : ∀ j, B ≤ j → W.heap[j]? = w.heap[j]?) (hB : B' ≤ B) : KS B' W dims v rs := by
  have kp : ∀ p : TP, p.Own B w dims v → p.Own B' W dims v := fun p hp => by
    refine ⟨⟨hp.1.1, hp.1.2.1, fun h0 => ?_⟩, fun b o e => ⟨by have := (hp.2 b o e).1; omega, (hp.2 b o e).2⟩⟩
    obtain ⟨b, o, e, hc⟩ := hp.1.2.2 h0
    exact ⟨b, o, e, fun j u hu => (World.cell?_of_block (w := w) (hk b (hp.2 b o e).1)).trans (hc j u hu)⟩
  refine ⟨⟨h.own.1, ?_⟩, fun x hx => ⟨kp _ (h.ok x hx).1, (h.ok x hx).2.1.imp id (kp _), (h.ok x hx).2.2.imp id (kp _)⟩⟩
  rcases h.own.2 with h | ⟨g, cap, cur, e1, hB1, hg, rest⟩
  · exact .inl h
  · exact .inr ⟨g, cap, cur, e1, by omega, (hk g hB1).trans hg, rest⟩

theorem kb_first {W3 w4 w6 w7 : World} {dims H tb n pb : Nat} {o : Obj} {qs ins : List TP} {ks : List Nat} {mt : MT} (h3 : W3.heap.size = H + 3) (h4 : Mod (fun _ => False) W3 w4) (h6 : Mod (fun _ => False) (w4.alloc o) w6) (hpb : (w4.alloc o).heap.size ≤ pb)
    (t1 : TrIn w7 dims tb n mt) (t2 : mt.T = (KB.build leB dims n qs ks 0).1) (t3 : w6.heap.size ≤ tb) (t4 : ∀ g ∈ mt.gs, w6.heap.size ≤ g) (t5 : Mod (fun k => k = pb ∨ k = w4.heap.size) w6 w7) :
    ∃ t0, t0 = (KB.build leB dims n qs ks 0).1 ∧ BS W3 w7 dims (H + 3) tb n t0 ins 0 mt [] := by
  have s4 := h4.size
  have s6 := h6.size
  rw [World.size_alloc] at s6 hpb
  refine ⟨_, rfl, by simpa using t1, t2, rfl, (fun p hp => by cases hp), ⟨by omega, fun g hg => by have := t4 g hg; omega⟩, ((h4.alloc o).trans h6).trans' t5 fun i hi h => by omega⟩

set_option maxRecDepth 100000 in
set_option maxHeartbeats 8000000 in
theorem kbuild_at (O P I : Option Addr) (n c nk cp m ci dims : Nat) (ps ins : List TP) (ks : List Nat) (w : World) (hp : PRows w O n ps dims) (hi : PRows w I m ins dims) (hnk : ks.length = nk) (hk : Sl w P nk 1 (ints (ks.map Int.ofNat))) (hkA : P = none → cp = 0) (hks : ∀ k ∈ ks, k ≤ 9223372036854775807)
    (hg : ∀ p ∈ ps, p.Gr) (hgi : ∀ p ∈ ins, p.Gr) (hn : n + m ≤ 1000000 ∧ nk ≤ 1000000) (hdm : 0 < dims ∧ dims ≤ 1099511627776) :
    Calls Tryz.prog 7 #[.slice O n c, .slice P nk cp, .bool false, .slice I m ci] w (KbTold dims n m ps ins ks w) := by
  have hmf : ∀ (fn : Fn) (first cap : Array Value) (w : World), (Instr.makeFunc fn first cap).run Tryz.prog w = .ok (.func fn first cap) w := fun _ _ _ _ => rfl
  obtain ⟨H, hH⟩ : ∃ H, w.heap.size = H := ⟨_, rfl⟩
  obtain ⟨W3, eW3, z3, m3, q0, q1, q2⟩ := init3 w H hH
  have H3 : Hid (W3.heap.size = H + 3 ∧ Mod (fun _ => False) w W3 ∧ Blk W3 H 29 [.slice none 0 0] ∧ Blk W3 (H + 1) 3 [.int .i64 0] ∧ Blk W3 (H + 2) 4 [.bool false]) := ⟨z3, m3, q0, q1, q2⟩
  have HEW := Lib.hid eW3
  have HP := Lib.hid (And.intro hp (And.intro hi (And.intro hnk (And.intro hk (And.intro hks (And.intro hg hgi))))))
  have HKA := Lib.hid hkA
  clear hp hi hnk hk hkA hks hg hgi z3 m3 q0 q1 q2 eW3
  go_enter_defers Tryz.func7, Tryz.ntmps7
  go_wp2_with (first
    | (go_at_call 14; rw [← HEW.out]; refine (ints_any P nk cp (ks.map Int.ofNat) W3 (HP.out.2.2.2.1.mod H3.out.2.1) (by omega) HKA.out).mono ?_; rintro _ w4 ⟨A4, c4, rfl, hs4, hm4, hc4, hcc4, hb4⟩; have H4 := Lib.hid (And.intro hs4 (And.intro hm4 (And.intro hc4 (And.intro hcc4 hb4)))); clear hs4 hm4 hc4 hcc4 hb4)
    | (go_at_call 16; go_loud (refine (kpoints_at O n c dims ps _ (HP.out.1.mod ((H3.out.2.1.trans H4.out.2.1).alloc _)) (by omega) hdm).mono ?_; rintro _ w6 ⟨X, cX, pb, qs, rfl, k1, k2, k3, k4, k5, k6, k7, k8⟩; have H6 := Lib.hid (And.intro k1 (And.intro k2 (And.intro k3 (And.intro k4 (And.intro k5 (And.intro k6 (And.intro k7 k8))))))); have HR := Lib.hid (kb_ready HP.out.2.2.1 H4.out.1 ⟨H4.out.2.2.1, H4.out.2.2.2.1⟩ HP.out.2.2.2.2.1 k5 k6 k8); clear k1 k2 k3 k4 k5 k6 k7 k8))
    | (go_at_call 15; go_loud (refine (new_at _ dims pb w4.heap.size n cX X qs ks HR.out.1 hdm H6.out.1 H6.out.2.2.2.2.2.2.1 HR.out.2.1 (gr_same H6.out.2.1 HP.out.2.2.2.2.2.1) HR.out.2.2 (by omega) H6.out.2.2.1 H6.out.2.2.2.1).mono ?_; rintro _ w7 ⟨tb, mt0, rfl, t1, t2, t3, t4, t5⟩; have HB : Hid (∃ t0, t0 = (KB.build leB dims n qs ks 0).1 ∧ BS W3 w7 dims (H + 3) tb n t0 ins 0 mt0 []) := kb_first H3.out.1 H4.out.2.1 H6.out.2.2.2.2.1 H6.out.2.2.2.2.2.1 t1 t2 t3 t4 t5; clear t1 t2 t3 t4 t5)))
  obtain ⟨t0, ht0, hB0⟩ := HB.out
  have HT0 := Lib.hid ht0
  have HB0 := Lib.hid hB0
  clear ht0 hB0
  go_loopw [26] (fun i w' => ∃ (k : Nat) (mt : MT) (is : List TP), k ≤ m ∧ i = .int .i64 k ∧ Hid (BS W3 w' dims (H + 3) tb n t0 ins k mt is)) (fun i _ => m - (intOf i).toNat)
  case atStart => exact ⟨0, mt0, [], Nat.zero_le _, rfl, HB0.out⟩
  case round =>
    obtain ⟨k, mt, is, hk, rfl, HR2⟩ := hrel
    by_cases hlt : k < m
    · have hpi := HP.out.2.1.mod (H3.out.2.1.trans HR2.out.mod)
      obtain ⟨b, o, v0, e1, e2, c1⟩ := hpi.1.at1 hlt
      have hlen := hpi.len
      have hk2 : k < ins.length := by omega
      obtain ⟨p, ep⟩ : ∃ p, p = ins[k] := ⟨_, rfl⟩
      have hpm : p ∈ ins := by rw [ep]; exact List.getElem_mem hk2
      have hTK : ins.take (k + 1) = ins.take k ++ [p] := by rw [List.take_succ_eq_append_getElem hk2, ep]
      have e3 : (ins.map TP.v)[k]? = some p.v := by rw [ep]; simp [hk2]
      rw [e3] at e2
      cases e2
      obtain ⟨hrd, hpl⟩ := hpi.2 p hpm
      have c2 : wr.cell? ⟨b, o + k, none⟩ = some (.slice p.A dims p.c) := by rw [c1, ← hpl]; rfl
      have hsl : Sl wr p.A dims 1 (flts p.xs) := by rw [← hpl]; exact hrd.1
      have HS := Lib.hid (And.intro hsl (And.intro hpl (And.intro hTK (HP.out.2.2.2.2.2.2 p hpm))))
      subst e1
      clear hpi hlen hk2 ep hpm hTK e3 c1 hrd hpl hsl
      have i0' : (0 : Int) ≤ k := by omega
      have i1' : (k : Int) < m := by omega
      go_wp2_with (first
        | (go_at_call 18; refine (floats_any p.A dims p.c p.xs _ HS.out.1 hdm.2 hdm.1).mono ?_; rintro _ w1 ⟨A2, cc2, rfl, hs2, hm2, hb2⟩; have HW := Lib.hid (And.intro hs2 (And.intro hm2 hb2)); clear hs2 hm2 hb2)
        | (go_at_call 17; refine (tinsert_at _ dims tb (n + k) ⟨A2, cc2, p.xs⟩ mt hdm (HR2.out.tin.mod HW.out.2.1) ⟨HS.out.2.1, by show Sl w1 A2 p.xs.length 1 _; rw [HS.out.2.1]; exact HW.out.1⟩ (gr_xs HS.out.2.2.2 rfl) (by omega)).mono ?_; rintro _ w2 he; obtain ⟨rfl, mt', hB'⟩ := HR2.out.step (q := ⟨A2, cc2, p.xs⟩) (p := p) H3.out.1 rfl HS.out.2.2.1 (gr_xs HS.out.2.2.2 rfl) HW.out.2.1 he; have HB' := Lib.hid hB'; clear hB' he))
      go_roundw
      case rel => exact ⟨k + 1, mt', is ++ [⟨A2, cc2, p.xs⟩], by omega, by go_num, HB'⟩
      case measure => simp [intOf]; omega
    · obtain rfl : k = m := by omega
      obtain ⟨v, hb, hin⟩ := HR2.out.tin.tree
      obtain ⟨qv, rfl⟩ := hin.ptr
      have c0 := hb.at (i := 0) rfl
      have hnil := KS.nil (H + 3) wr dims
      have hin2 : KTr wr dims mt (.pointer qv) (.slice none 0 0) := ⟨hin, fun p hp => ⟨(HR2.out.tin.pts p hp).1, fun b o e e2 => by cases e2⟩, HR2.out.tin.bare⟩
      have hcount : ([] : List KR).length + mt.count ≤ 4294967296 := by
        have h1 := kb_count HR2.out.tree
        rw [HT0.out] at h1
        have h2 := kb_size (ks := ks) hdm.1 H6.out.1
        have h3 := congrArg List.length HR2.out.same
        rw [List.length_map, List.length_map, List.length_take] at h3
        simp only [List.length_nil]
        omega
      have HT1 := Lib.hid (And.intro hin2 (And.intro hnil hcount))
      have HT2 := Lib.hid (And.intro hb hin)
      have hHw : H + 3 ≤ wr.heap.size := by have h1 := HR2.out.mod.size; have h2 := H3.out.1; omega
      have htl := hb.lt
      clear hin2 hnil hcount hb hin
      go_wp2_with (go_at_call 19; refine (knodes_at (H + 3) dims hdm mt _ (.pointer qv) (.slice none 0 0) [] HT1.out.1 HT1.out.2.1 hHw HT1.out.2.2).mono ?_; rintro _ w5 ⟨v', rs, rfl, r1, r2, r3, r4, ⟨A5, c5, r5⟩⟩; obtain ⟨N, hN⟩ : ∃ N, N = ([] ++ rs : List KR).length := ⟨_, rfl⟩; rw [← hN] at r5; subst r5; have hm5 : Mod (fun _ => False) wr w5 := r3.mono (fun _ _ h => by cases h); have b0 := (H3.out.2.2.1.mod HR2.out.mod (fun h => h)).mod hm5 (fun h => h); have y0 := b0.at (i := 0) rfl; have z0 := b0.frozen 0; have H5 := Lib.hid (And.intro r1 (And.intro r2 (And.intro hm5 (And.intro b0 hN)))); clear r1 r2 r3 r4 hm5 b0 hN)
      have hlow := HR2.out.low.1
      have hmw5 : Mod (fun _ => False) w w5 := (H3.out.2.1.trans HR2.out.mod).trans H5.out.2.2.1
      obtain ⟨W6, eW6⟩ : ∃ W6, W6 = w5.setCell ⟨H, 0, none⟩ (.slice A5 N c5) := ⟨_, rfl⟩
      rw [← eW6]
      have d0 : Blk W6 H 29 [.slice A5 N c5] := by rw [eW6]; exact H5.out.2.2.2.1.set 0 _
      have d1 : Blk W6 (H + 1) 3 [.int .i64 0] := by rw [eW6]; exact ((H3.out.2.2.2.1.mod HR2.out.mod (fun h => h)).mod H5.out.2.2.1 (fun h => h)).other _ (by show H ≠ H + 1; omega)
      have d2 : Blk W6 (H + 2) 4 [.bool false] := by rw [eW6]; exact ((H3.out.2.2.2.2.mod HR2.out.mod (fun h => h)).mod H5.out.2.2.1 (fun h => h)).other _ (by show H ≠ H + 2; omega)
      have dt : Blk W6 tb 56 [.pointer qv, .int .i64 ((n + k : Nat) : Int)] := by rw [eW6]; exact (HT2.out.1.mod H5.out.2.2.1 (fun h => h)).other _ (by show H ≠ tb; omega)
      have hm6 : Mod (fun _ => False) w W6 := by rw [eW6]; exact hmw5.set (p := ⟨H, 0, none⟩) (.inr (by show w.heap.size ≤ H; omega)) _
      have hk6 : ∀ j, H + 3 ≤ j → W6.heap[j]? = w5.heap[j]? := fun j hj => by rw [eW6]; exact Below.heap_setCell _ _ _ _ (by show j ≠ H; omega)
      have x0 := d0.at (i := 0) rfl
      have x1 : W6.cell? ⟨H + 1, 0, none⟩ = some (.int .i64 0) := d1.at (i := 0) rfl
      have x2 : W6.cell? ⟨H + 1 + 1, 0, none⟩ = some (.bool false) := d2.at (i := 0) rfl
      have g0 := d0.frozen 0
      have g1 := d1.frozen 0
      have g2 : W6.frozen? ⟨H + 1 + 1, 0, none⟩ = false := d2.frozen 0
      have HD := Lib.hid (And.intro d0 (And.intro d1 (And.intro d2 (And.intro dt (And.intro hm6 hk6)))))
      clear d0 d1 d2 dt hm6 hk6 eW6 hmw5 y0 z0 c0
      have e1 := HD.out.1.set 0 (.slice A5 N c5)
      have e2 := e1.other (a := ⟨H + 1, 0, none⟩) (.int .i64 ((n : Int) + (k : Int))) (by show H + 1 ≠ H; omega)
      have e3 := e2.other (a := ⟨H + 1 + 1, 0, none⟩) (.bool true) (by show H + 1 + 1 ≠ H; omega)
      have v1 : (W6.setCell ⟨H, 0, none⟩ (.slice A5 N c5)).drew.cell? ⟨H, 0, none⟩ = some (.slice A5 N c5) := e1.drew.at (i := 0) rfl
      have v2 : ((W6.setCell ⟨H, 0, none⟩ (.slice A5 N c5)).setCell ⟨H + 1, 0, none⟩ (.int .i64 ((n : Int) + (k : Int)))).drew.cell? ⟨H, 0, none⟩ = some (.slice A5 N c5) := e2.drew.at (i := 0) rfl
      have v3 : (((W6.setCell ⟨H, 0, none⟩ (.slice A5 N c5)).setCell ⟨H + 1, 0, none⟩ (.int .i64 ((n : Int) + (k : Int)))).setCell ⟨H + 1 + 1, 0, none⟩ (.bool true)).drew.cell? ⟨H, 0, none⟩ = some (.slice A5 N c5) := e3.drew.at (i := 0) rfl
      have v0 : W6.drew.cell? ⟨H, 0, none⟩ = some (.slice A5 N c5) := x0
      have HV := Lib.hid (And.intro v1 (And.intro v2 v3))
      clear e1 e2 e3 v1 v2 v3
      go_region_held3 (fun w' => w'.cell? ⟨H, 0, none⟩ = some (.slice A5 N c5)) (first | with_reducible exact v0 | with_reducible exact HV.out.1 | with_reducible exact HV.out.2.1 | with_reducible exact HV.out.2.2 | go_keep)
        (first | (go_at_call 20; refine (tlen_at _ tb (n + k) (.pointer qv) (by first | exact HD.out.2.2.2.1 | exact HD.out.2.2.2.1.drew)).mono ?_; rintro _ _ ⟨rfl, rfl⟩))
      obtain ⟨W7, eW7⟩ : ∃ W7, W7 = (((W6.setCell ⟨H, 0, none⟩ (.slice A5 N c5)).setCell ⟨H + 1, 0, none⟩ (.int .i64 ((n : Int) + (k : Int)))).setCell ⟨H + 1 + 1, 0, none⟩ (.bool true)).drew := ⟨_, rfl⟩
      rw [← eW7]
      have r0 : W7.cell? ⟨H, 0, none⟩ = some (.slice A5 N c5) := by rw [eW7]; exact HV.out.2.2
      have r1 : W7.cell? ⟨H + 1, 0, none⟩ = some (.int .i64 ((n : Int) + (k : Int))) := by
        rw [eW7]
        have q1 := ((HD.out.2.1.other (a := ⟨H, 0, none⟩) (.slice A5 N c5) (by show H ≠ H + 1; omega)).set 0 (.int .i64 ((n : Int) + (k : Int)))).other (a := ⟨H + 1 + 1, 0, none⟩) (.bool true) (by show H + 1 + 1 ≠ H + 1; omega)
        exact q1.drew.at (i := 0) rfl
      have r2 : W7.cell? ⟨H + 1 + 1, 0, none⟩ = some (.bool true) := by
        rw [eW7]
        have q1 := ((HD.out.2.2.1.other (a := ⟨H, 0, none⟩) (.slice A5 N c5) (by show H ≠ H + 2; omega)).other (a := ⟨H + 1, 0, none⟩) (.int .i64 ((n : Int) + (k : Int))) (by show H + 1 ≠ H + 2; omega)).set 0 (.bool true)
        exact q1.drew.at (i := 0) rfl
      have hfin : KbTold dims n k ps ins ks w (.returned (.tuple #[.slice A5 N c5, .int .i64 ((n : Int) + (k : Int)), .bool true])) W7 := by
        obtain ⟨s1, s2, s3, s4, s5⟩ := H5.out
        rw [List.nil_append] at s1 s5
        refine ⟨_, rs, mt, qs, is, by rw [Int.natCast_add], s1.keepB (fun j hj => ?_) (by omega), s2, by rw [HR2.out.tree, HT0.out], HR2.out.tin.bare, H6.out.2.1, ?_, ?_, ⟨A5, c5, by rw [s5]⟩⟩
        · rw [eW7, show ∀ w : World, w.drew.heap = w.heap from fun _ => rfl, Below.heap_setCell _ _ _ _ (by show j ≠ H + 1 + 1; omega), Below.heap_setCell _ _ _ _ (by show j ≠ H + 1; omega), Below.heap_setCell _ _ _ _ (by show j ≠ H; omega)]
          exact HD.out.2.2.2.2.2 j hj
        · rw [HR2.out.same, List.take_of_length_le (by have := HP.out.2.1.len; omega)]
        · rw [eW7]
          exact (((HD.out.2.2.2.2.1.set (p := ⟨H, 0, none⟩) (.inr (by show w.heap.size ≤ H; omega)) _).set (p := ⟨H + 1, 0, none⟩) (.inr (by show w.heap.size ≤ H + 1; omega)) _).set (p := ⟨H + 1 + 1, 0, none⟩) (.inr (by show w.heap.size ≤ H + 1 + 1; omega)) _).drew
      have HFIN := Lib.hid hfin
      have HRR := Lib.hid (And.intro r0 (And.intro r1 r2))
      clear hfin r0 r1 r2 eW7 x0 x1 x2 g0 g1 g2 v0
      go_wp2_with fail
      refine leaves_cons (f := 13) (args := #[.pointer (some ⟨H, 0, none⟩), .pointer (some ⟨H + 1, 0, none⟩), .pointer (some ⟨H + 1 + 1, 0, none⟩)]) (by simp) (by simp [go_sem]) ?_
      refine (catch_idle3 ⟨H, 0, none⟩ ⟨H + 1, 0, none⟩ ⟨H + 1 + 1, 0, none⟩ _).mono ?_
      rintro e u' w'' ⟨rfl, rfl, rfl⟩
      obtain ⟨r0, r1, r2⟩ := HRR.out
      simp [Leaves, settle, results, Tryz.results7, go_sem, r0, r1, r2]
      exact HFIN.out
end Go.Proofs.YtmeooadgdagiiaaGreat

namespace Go.Proofs.YtmeooadgdagiiaaGreat
open Go.RowKit Lox
set_option linter.unusedVariables false
attribute [local go_sem] run_store_flt run_store_fn
attribute [local go_sem ↓] Go.wp_at_zero Go.wp_at_succ

theorem init_kn (w : World) (H : Nat) (hH : w.heap.size = H) : ∃ W, W = ((w.alloc (.cells #[.slice none 0 0, .float .f64 0] 68)).alloc (.cells #[.bool false] 4)) ∧ W.heap.size = H + 2 ∧ Mod (fun _ => False) w W ∧
    Blk W H 68 [.slice none 0 0, .float .f64 0] ∧ Blk W (H + 1) 4 [.bool false] := by
  have hs : ∀ (w : World) (o : Obj) (k : Nat), w.heap.size = k → (w.alloc o).heap.size = k + 1 := fun w o k h => by rw [World.size_alloc, h]
  have s1 := hs w (.cells #[.slice none 0 0, .float .f64 0] 68) H hH
  have s2 := hs _ (.cells #[.bool false] 4) _ s1
  have nb : ∀ (w : World) (k : Nat) (c : Array Value) (T : TypeId), w.heap.size = k → Blk (w.alloc (.cells c T)) k T c.toList := fun w k c T h => by subst h; exact Blk.new' w c T
  refine ⟨_, rfl, s2, ((Mod.refl _ _).alloc _).alloc _, ?_, ?_⟩
  · exact (nb w H _ _ hH).alloc _
  · exact nb _ _ _ _ s1

theorem same_gr {mt mt' : MT} (h : mt'.T.map TP.xs = mt.T.map TP.xs) (hg : ∀ p ∈ mt.pts, p.Gr) : ∀ p ∈ mt'.pts, p.Gr := by
  intro p hp
  have h1 : p.xs ∈ mt.pts.map TP.xs := by rw [← same_pts h]; exact List.mem_map_of_mem hp
  obtain ⟨p0, h2, h3⟩ := List.mem_map.1 h1
  exact gr_xs (hg p0 h2) h3.symm

theorem same_nil {mt mt' : MT} (h : mt'.T.map TP.xs = mt.T.map TP.xs) (hn : mt ≠ .nil) : mt' ≠ .nil := by
  rintro rfl
  cases mt with
  | nil => exact hn rfl
  | node g p d bx l r => cases h

/-- What KNearest tells. -/
def KnrTold (dims : Nat) (qx : List Nat) (pts : List (List Nat)) (w : World) (e : Ending) (w' : World) : Prop :=
  ∃ (A : Option Addr) (c : Nat) (xs : List Nat) (r : Nat), e = .returned (.tuple #[.agg #[.slice A dims c, .float .f64 r], .bool true]) ∧ Sl w' A dims 1 (flts xs) ∧ xs ∈ pts ∧ Gd 0 r (sqx qx xs dims) ∧ (∀ y ∈ pts, sqx qx xs dims ≤ sqx qx y dims) ∧ (∀ b o, A = some ⟨b, o, none⟩ → w.heap.size ≤ b) ∧ Mod (fun _ => False) w w'

end Go.Proofs.YtmeooadgdagiiaaGreat

namespace Go.Proofs.YtmeooadgdagiiaaGreat.K
open Go.RowKit Lox Go.Sort
set_option linter.unusedVariables false

/-- What has been found, and what has not. -/
structure FRes (dims : Nat) (qx : List Nat) (pts : List (List Nat)) (fs : List (TP × Nat)) (rest : List (List Nat)) : Prop where
  dv : ∀ x ∈ fs, DV x.2 (some (sqx qx x.1.xs dims))
  perm : (fs.map (·.1.xs) ++ rest).Perm pts
  up : (fs.map fun x => sqx qx x.1.xs dims).Pairwise (· ≤ ·)
  far : ∀ a ∈ fs, ∀ b ∈ rest, sqx qx a.1.xs dims ≤ sqx qx b dims

theorem found_back {fs : List (TP × Nat)} {ts : List XT} (h : fs.map (fun x => (x.1.xs, x.2)) = ts.map (fun t => (t.2.xs, t.1.1))) {x : TP × Nat} (hx : x ∈ fs) : ∃ t ∈ ts, x.1.xs = t.2.xs ∧ x.2 = t.1.1 := by
  have h1 : (x.1.xs, x.2) ∈ ts.map (fun t => (t.2.xs, t.1.1)) := by rw [← h]; exact List.mem_map.2 ⟨x, hx, rfl⟩
  obtain ⟨t, ht, e⟩ := List.mem_map.1 h1
  have e1 := congrArg Prod.fst e
  have e2 := congrArg Prod.snd e
  exact ⟨t, ht, e1.symm, e2.symm⟩

theorem fres_of {q : TP} {dims : Nat} {ts rs : List XT} {ps : List TP} {fs : List (TP × Nat)} {pts : List (List Nat)} (h : Res q dims ts rs ps) (hs : fs.map (fun x => (x.1.xs, x.2)) = ts.map (fun t => (t.2.xs, t.1.1))) (hp : ps.map TP.xs = pts) : FRes dims q.xs pts fs (rs.map (·.2.xs)) := by
  have e1 : fs.map (·.1.xs) = ts.map (·.2.xs) := by
    have := congrArg (List.map Prod.fst) hs
    rw [List.map_map, List.map_map] at this
    exact this
  refine ⟨fun x hx => ?_, ?_, ?_, fun a ha b hb => ?_⟩
  · obtain ⟨t, ht, h1, h2⟩ := found_back hs hx
    rw [h1, h2]
    exact (h.isp t (List.mem_append_left _ ht)).1
  · have := h.perm.map TP.xs
    rw [hp, List.map_map, List.map_append] at this
    rw [e1]
    exact this
  · have e2 : (fs.map fun x => sqx q.xs x.1.xs dims) = ts.map fun t => sqx q.xs t.2.xs dims := by
      have := congrArg (List.map fun y => sqx q.xs y dims) e1
      rw [List.map_map, List.map_map] at this
      exact this
    rw [e2]
    exact h.up
  · obtain ⟨t, ht, h1, _⟩ := found_back hs ha
    obtain ⟨u, hu, rfl⟩ := List.mem_map.1 hb
    rw [h1]
    exact h.far t ht u hu

theorem FRows.modS {w w' : World} {F : Option Addr} {n : Nat} {fs : List (TP × Nat)} {S : Nat → Prop} (h : FRows w F n fs) (hm : Mod S w w') (hS : ∀ b o, F = some ⟨b, o, none⟩ → ¬ S b) : FRows w' F n fs := by
  refine ⟨h.len, fun h0 => ?_⟩
  obtain ⟨b, o, e, hc⟩ := h.cells h0
  exact ⟨b, o, e, fun i x hx => ⟨(hm.cell (lt_of_cell (hc i x hx).1) (hS b o e)).trans (hc i x hx).1, (hm.cell (lt_of_cell (hc i x hx).2) (hS b o e)).trans (hc i x hx).2⟩⟩

theorem init_ks (w : World) (H : Nat) (hH : w.heap.size = H) : ∃ W, W = ((w.alloc (.cells #[.slice none 0 0] 32)).alloc (.cells #[.bool false] 4)) ∧ W.heap.size = H + 2 ∧ Mod (fun _ => False) w W ∧
    Blk W H 32 [.slice none 0 0] ∧ Blk W (H + 1) 4 [.bool false] := by
  have hs : ∀ (w : World) (o : Obj) (k : Nat), w.heap.size = k → (w.alloc o).heap.size = k + 1 := fun w o k h => by rw [World.size_alloc, h]
  have s1 := hs w (.cells #[.slice none 0 0] 32) H hH
  have s2 := hs _ (.cells #[.bool false] 4) _ s1
  have nb : ∀ (w : World) (k : Nat) (c : Array Value) (T : TypeId), w.heap.size = k → Blk (w.alloc (.cells c T)) k T c.toList := fun w k c T h => by subst h; exact Blk.new' w c T
  refine ⟨_, rfl, s2, ((Mod.refl _ _).alloc _).alloc _, ?_, ?_⟩
  · exact (nb w H _ _ hH).alloc _
  · exact nb _ _ _ _ s1

theorem fsrc_d {S : Nat} {w : World} {kb hb cap : Nat} {q : TP} {dims : Nat} {ts : List XT} (h : D.DKS S w kb hb ts.length cap (elsX ts)) (hi : ∀ t ∈ ts, IsP q dims t) : FSrc w hb ts := by
  intro i t ht
  obtain ⟨hlt, et⟩ := List.getElem?_eq_some_iff.1 ht
  obtain ⟨v, b, h1, h2, _, _, he⟩ := h.at hlt
  have hat : at' (elsX ts) i = some t.1 := by
    unfold at' elsX
    rw [List.getD_eq_getElem?_getD, List.getElem?_map, ht]; rfl
  rw [hat] at he
  obtain ⟨rfl, _, rfl⟩ := he
  have := (hi t (by rw [← et]; exact List.getElem_mem _)).2
  rw [this] at h1
  exact ⟨h1, h2⟩

theorem fk_same {x y : Nat} {a : Int} (hx : Gd 0 x a) (hy : Gd 0 y a) : fk x = fk y := by
  have h1 := (fk_le hx hy).2 (Int.le_refl _)
  have h2 := (fk_le hy hx).2 (Int.le_refl _)
  omega
end Go.Proofs.YtmeooadgdagiiaaGreat.K

namespace Go.Proofs.YtmeooadgdagiiaaGreat.K
open Go.RowKit Lox Go.Sort
set_option linter.unusedVariables false

/-- The squares of what has been found. -/
noncomputable def keysF (dims : Nat) (qx : List Nat) (fs : List (TP × Nat)) : List Int := fs.map fun x => sqx qx x.1.xs dims

theorem FRes.keys {dims : Nat} {qx : List Nat} {pts : List (List Nat)} {fs : List (TP × Nat)} {rest : List (List Nat)} (h : FRes dims qx pts fs rest) : (keysF dims qx fs ++ rest.map fun y => sqx qx y dims).Perm (pts.map fun y => sqx qx y dims) := by
  have := h.perm.map fun y => sqx qx y dims
  rw [List.map_append, List.map_map] at this
  exact this

theorem exists_up (l : List Int) : ∃ s : List Int, s.Perm l ∧ s.Pairwise (· ≤ ·) := by
  refine ⟨l.mergeSort (fun a b => decide (a ≤ b)), List.mergeSort_perm _ _, ?_⟩
  have := List.pairwise_mergeSort (le := fun a b : Int => decide (a ≤ b)) (fun a b c h1 h2 => by simp at *; omega) (fun a b => by simp; omega) l
  exact this.imp fun h => of_decide_eq_true h

theorem up_same {a b : List Int} (ha : a.Pairwise (· ≤ ·)) (hb : b.Pairwise (· ≤ ·)) (hp : a.Perm b) : a = b :=
  List.Perm.eq_of_pairwise (le := (· ≤ ·)) (fun x y _ _ h1 h2 => Int.le_antisymm h1 h2) ha hb hp

theorem up_app {a r : List Int} (ha : a.Pairwise (· ≤ ·)) (h : ∀ x ∈ a, ∀ y ∈ r, x ≤ y) : ∃ s : List Int, s.Perm r ∧ (a ++ s).Pairwise (· ≤ ·) := by
  obtain ⟨s, h1, h2⟩ := exists_up r
  exact ⟨s, h1, List.pairwise_append.2 ⟨ha, h2, fun x hx y hy => h x hx y (h1.mem_iff.1 hy)⟩⟩

/-- The lesser of two beginnings of one order is a beginning of the other. -/
theorem up_take {a r b s k : List Int} (ha : a.Pairwise (· ≤ ·)) (hr : ∀ x ∈ a, ∀ y ∈ r, x ≤ y) (hb : b.Pairwise (· ≤ ·)) (hs : ∀ x ∈ b, ∀ y ∈ s, x ≤ y) (h1 : (a ++ r).Perm k) (h2 : (b ++ s).Perm k) (hl : a.length ≤ b.length) : a = b.take a.length := by
  obtain ⟨r', h3, h4⟩ := up_app ha hr
  obtain ⟨s', h5, h6⟩ := up_app hb hs
  have e := up_same h4 h6 (((h3.append_left a).trans h1).trans ((h5.append_left b).trans h2).symm)
  have := congrArg (List.take a.length) e
  rw [List.take_left, List.take_append_of_le_length hl] at this
  exact this

theorem FRes.far' {dims : Nat} {qx : List Nat} {pts : List (List Nat)} {fs : List (TP × Nat)} {rest : List (List Nat)} (h : FRes dims qx pts fs rest) : ∀ x ∈ keysF dims qx fs, ∀ y ∈ rest.map (fun y => sqx qx y dims), x ≤ y := by
  intro x hx y hy
  obtain ⟨a, ha, rfl⟩ := List.mem_map.1 hx
  obtain ⟨b, hb, rfl⟩ := List.mem_map.1 hy
  exact h.far a ha b hb

theorem keys_take {dims : Nat} {qx : List Nat} {pts : List (List Nat)} {fs gs : List (TP × Nat)} {rest more : List (List Nat)} (h : FRes dims qx pts fs rest) (k : FRes dims qx pts gs more) (hl : fs.length ≤ gs.length) : keysF dims qx fs = (keysF dims qx gs).take fs.length := by
  have hf : (keysF dims qx fs).length = fs.length := List.length_map ..
  have := up_take h.up h.far' k.up k.far' h.keys k.keys (by show (keysF dims qx fs).length ≤ (keysF dims qx gs).length; rw [hf]; show _ ≤ (List.map _ gs).length; rw [List.length_map]; exact hl)
  change keysF dims qx fs = (keysF dims qx gs).take (keysF dims qx fs).length at this
  rw [hf] at this
  exact this

/-- One behind the other, of both the same square. -/
theorem keys_get {dims i : Nat} {qx : List Nat} {pts : List (List Nat)} {fs gs : List (TP × Nat)} {rest more : List (List Nat)} (h : FRes dims qx pts fs rest) (k : FRes dims qx pts gs more) (hl : fs.length ≤ gs.length) {x : TP × Nat} (hx : fs[i]? = some x) : ∃ y, gs[i]? = some y ∧ sqx qx y.1.xs dims = sqx qx x.1.xs dims := by
  have hi : i < fs.length := (List.getElem?_eq_some_iff.1 hx).1
  have h1 := congrArg (fun l : List Int => l[i]?) (keys_take h k hl)
  simp only [keysF, List.getElem?_map, hx, Option.map_some, List.getElem?_take_of_lt hi] at h1
  have hg : i < gs.length := by omega
  refine ⟨gs[i], List.getElem?_eq_getElem hg, ?_⟩
  rw [List.getElem?_eq_getElem hg] at h1
  simpa using h1.symm

theorem keys_up {dims i j : Nat} {qx : List Nat} {pts : List (List Nat)} {fs : List (TP × Nat)} {rest : List (List Nat)} (h : FRes dims qx pts fs rest) {x y : TP × Nat} (hx : fs[i]? = some x) (hy : fs[j]? = some y) (hij : i ≤ j) : sqx qx x.1.xs dims ≤ sqx qx y.1.xs dims := by
  obtain ⟨hi, e1⟩ := List.getElem?_eq_some_iff.1 hx
  obtain ⟨hj, e2⟩ := List.getElem?_eq_some_iff.1 hy
  by_cases he : i = j
  · subst he; rw [hx] at hy; cases hy; exact Int.le_refl _
  · have h1 := List.pairwise_iff_getElem.1 h.up i j (by simpa using hi) (by simpa using hj) (by omega)
    simp only [List.getElem_map, e1, e2] at h1
    exact h1

/-- Those within the last one's distance: not fewer, and the last of them is as far. -/
theorem within_last {dims S m : Nat} {qx : List Nat} {pts : List (List Nat)} {fs gs : List (TP × Nat)} {rest more : List (List Nat)} (h : FRes dims qx pts fs rest) (k : FRes dims qx pts gs more) (hl : fs.length = m + 1) {x : TP × Nat} (hx : fs[m]? = some x) (hS : S = x.2)
    (hin : ∀ y ∈ gs, fk y.2 ≤ fk S) (hout : ∀ b ∈ more, ∀ r, Gd 0 r (sqx qx b dims) → fk S < fk r) (hbits : ∀ b ∈ more, ∃ r, Gd 0 r (sqx qx b dims)) : ∃ c y, gs.length = c + 1 ∧ m ≤ c ∧ gs[c]? = some y ∧ sqx qx y.1.xs dims = sqx qx x.1.xs dims := by
  obtain ⟨L, hL⟩ : ∃ L, L = sqx qx x.1.xs dims := ⟨_, rfl⟩
  have hxm : x ∈ fs := List.mem_of_getElem? hx
  have hdx : Gd 0 S L := by rw [hS, hL]; exact (h.dv x hxm).1
  have h1 : ∀ z ∈ keysF dims qx fs, z ≤ L := by
    intro z hz
    obtain ⟨a, ha, rfl⟩ := List.mem_map.1 hz
    obtain ⟨i, hi, e⟩ := List.getElem_of_mem ha
    rw [hL]
    exact keys_up h (i := i) (j := m) (x := a) (by rw [← e]; exact List.getElem?_eq_getElem hi) hx (by omega)
  have h2 : ∀ z ∈ keysF dims qx gs, z ≤ L := by
    intro z hz
    obtain ⟨a, ha, rfl⟩ := List.mem_map.1 hz
    exact (fk_le (k.dv a ha).1 hdx).1 (hin a ha)
  have h3 : ∀ z ∈ more.map (fun y => sqx qx y dims), L < z := by
    intro z hz
    obtain ⟨b, hb, rfl⟩ := List.mem_map.1 hz
    obtain ⟨r, hr⟩ := hbits b hb
    have h4 := hout b hb r hr
    have h5 : ¬ sqx qx b dims ≤ L := fun h6 => by have := (fk_le hr hdx).2 h6; omega
    show L < sqx qx b dims
    omega
  have hp := h.keys.trans k.keys.symm
  have hc : (keysF dims qx fs).length ≤ (keysF dims qx gs).length := by
    have h6 := hp.countP_eq (fun z => decide (z ≤ L))
    rw [List.countP_append, List.countP_append] at h6
    have h7 : (keysF dims qx fs).countP (fun z => decide (z ≤ L)) = (keysF dims qx fs).length := List.countP_eq_length.2 fun z hz => by simpa using h1 z hz
    have h8 : (keysF dims qx gs).countP (fun z => decide (z ≤ L)) = (keysF dims qx gs).length := List.countP_eq_length.2 fun z hz => by simpa using h2 z hz
    have h9 : (more.map (fun y => sqx qx y dims)).countP (fun z => decide (z ≤ L)) = 0 := List.countP_eq_zero.2 fun z hz => by have := h3 z hz; simpa using this
    omega
  have hfl : (keysF dims qx fs).length = fs.length := List.length_map ..
  have hgl : (keysF dims qx gs).length = gs.length := List.length_map ..
  have hgm : m + 1 ≤ gs.length := by omega
  obtain ⟨c, hcc⟩ : ∃ c, gs.length = c + 1 := ⟨gs.length - 1, by omega⟩
  have hcl : c < gs.length := by omega
  refine ⟨c, gs[c], hcc, by omega, List.getElem?_eq_getElem hcl, ?_⟩
  have hLm : L ∈ keysF dims qx gs := by
    have h10 : L ∈ keysF dims qx fs ++ rest.map (fun y => sqx qx y dims) := List.mem_append_left _ (by rw [hL]; exact List.mem_map.2 ⟨x, hxm, rfl⟩)
    rcases List.mem_append.1 (hp.mem_iff.1 h10) with h11 | h11
    · exact h11
    · have := h3 L h11; omega
  obtain ⟨a, ha, ea⟩ := List.mem_map.1 hLm
  obtain ⟨i, hi, e⟩ := List.getElem_of_mem ha
  have h12 := keys_up k (i := i) (j := c) (x := a) (y := gs[c]) (by rw [← e]; exact List.getElem?_eq_getElem hi) (List.getElem?_eq_getElem hcl) (by omega)
  rw [ea] at h12
  have h13 := h2 (sqx qx gs[c].1.xs dims) (List.mem_map.2 ⟨gs[c], List.getElem_mem hcl, rfl⟩)
  omega
end Go.Proofs.YtmeooadgdagiiaaGreat.K

namespace Lox
open Go Go.RowKit
set_option linter.unusedVariables false

/-- A word of a whole number. -/
def Gn (x : Nat) : Prop := ∃ n, Gd 0 x n
open Classical in
/-- The whole number that a word stands for. -/
noncomputable def zv (x : Nat) : Int := if h : Gn x then Classical.choose h else 0
theorem zv_gd {x : Nat} (h : Gn x) : Gd 0 x (zv x) := by
  unfold zv
  rw [dif_pos h]
  exact Classical.choose_spec h
theorem zv_eq {x : Nat} {n : Int} (h : Gd 0 x n) : zv x = n := gd_unique (zv_gd ⟨n, h⟩) h

/-- xs with x at place i. -/
def insAt (xs : List Nat) (x i : Nat) : List Nat := xs.take i ++ x :: xs.drop i

theorem insAt_end (xs : List Nat) (x : Nat) : insAt xs x xs.length = xs ++ [x] := by simp [insAt]
theorem insAt_len {xs : List Nat} {x i : Nat} (h : i ≤ xs.length) : (insAt xs x i).length = xs.length + 1 := by simp [insAt]; omega
theorem split_at {xs : List Nat} {j y : Nat} (h : xs[j]? = some y) : ∃ A B, xs = A ++ y :: B ∧ A.length = j := by
  obtain ⟨hl, e⟩ := List.getElem?_eq_some_iff.1 h
  refine ⟨xs.take j, xs.drop (j + 1), ?_, by simp; omega⟩
  rw [← e, ← List.drop_eq_getElem_cons hl, List.take_append_drop]
theorem insAt_at {A B : List Nat} {x y : Nat} : insAt (A ++ y :: B) x A.length = A ++ x :: y :: B ∧ insAt (A ++ y :: B) x (A.length + 1) = A ++ y :: x :: B := by
  unfold insAt
  constructor
  · simp
  · have e : A ++ y :: B = (A ++ [y]) ++ B := by simp
    have l : A.length + 1 = (A ++ [y]).length := by simp
    rw [e, l, List.take_left, List.drop_left]
    simp
theorem insAt_swap {xs : List Nat} {x y j : Nat} (h : xs[j]? = some y) : ((insAt xs x (j + 1)).set (j + 1) y).set j x = insAt xs x j := by
  obtain ⟨A, B, rfl, rfl⟩ := split_at h
  rw [insAt_at.1, insAt_at.2]
  simp
theorem insAt_get {xs : List Nat} {x y j : Nat} (h : xs[j]? = some y) : (insAt xs x (j + 1))[j]? = some y ∧ (insAt xs x (j + 1))[j + 1]? = some x := by
  obtain ⟨A, B, rfl, rfl⟩ := split_at h
  rw [insAt_at.2]
  simp
theorem insAt_perm (xs : List Nat) (x i : Nat) : (insAt xs x i).Perm (x :: xs) := by
  unfold insAt
  refine List.perm_middle.trans ?_
  rw [List.take_append_drop]

/-- Sorted by the numbers. -/
def Up (xs : List Nat) : Prop := xs.Pairwise fun a b => zv a ≤ zv b

theorem insAt_up {xs : List Nat} {x i : Nat} (h : Up xs) (hi : i ≤ xs.length) (h1 : ∀ y ∈ xs.drop i, zv x < zv y) (h2 : ∀ j y, i = j + 1 → xs[j]? = some y → zv y ≤ zv x) : Up (insAt xs x i) := by
  have h0 : Up (xs.take i ++ xs.drop i) := by rw [List.take_append_drop]; exact h
  obtain ⟨a1, a2, a3⟩ := List.pairwise_append.1 h0
  refine List.pairwise_append.2 ⟨a1, List.pairwise_cons.2 ⟨fun y hy => by have := h1 y hy; omega, a2⟩, fun a ha b hb => ?_⟩
  rcases List.mem_cons.1 hb with rfl | hb
  · cases i with
    | zero => simp at ha
    | succ j =>
      obtain ⟨y, hy⟩ : ∃ y, xs[j]? = some y := ⟨_, List.getElem?_eq_getElem (by omega)⟩
      have hyx := h2 j y rfl hy
      rw [List.take_add_one, hy] at ha a1
      rcases List.mem_append.1 ha with ha | ha
      · have := (List.pairwise_append.1 a1).2.2 a ha y (by simp)
        omega
      · have : a = y := by simpa using ha
        rw [this]; exact hyx
  · exact a3 a ha b hb

theorem own_at {w : World} {B : Nat} {e : TypeId} {g n cap : Nat} {xs : List Value} (h : w.ownsRow B e 1 (.slice (some ⟨g, 0, none⟩) n cap) n xs) {j : Nat} {u : Value} (hu : xs[j]? = some u) : w.cell? ⟨g, j, none⟩ = some u ∧ w.frozen? ⟨g, j, none⟩ = false := by
  have h1 := h.cells (g := g) rfl j u hu
  rw [addr_lit, Nat.zero_add] at h1
  refine ⟨h1, ?_⟩
  rcases h.2 with ⟨e1, _⟩ | ⟨g', cap', cur, e1, hB, hg, _⟩
  · cases e1
  · cases e1
    have hb : Blk w g e cur.toList := by unfold Blk; simpa using hg
    exact hb.frozen _
end Lox
namespace Go.Proofs.YtmeooadgdagiiaaGreat
open Go.RowKit Lox
set_option linter.unusedVariables false
attribute [local go_sem] run_store_flt run_store_fn

theorem flts_set (xs : List Nat) (i x : Nat) : (flts xs).set i (.float .f64 x) = flts (xs.set i x) := by unfold flts; rw [List.map_set]
theorem flts_app (xs ys : List Nat) : flts xs ++ flts ys = flts (xs ++ ys) := by unfold flts; rw [List.map_append]
theorem flts_get {xs : List Nat} {j x : Nat} (h : xs[j]? = some x) : (flts xs)[j]? = some (.float .f64 x) := by unfold flts; rw [List.getElem?_map, h]; rfl

/-- What withNumber tells: the row's new value, the place. -/
def WithTold (B n : Nat) (v : Value) (xs : List Nat) (x : Nat) (w : World) (e : Ending) (w' : World) : Prop :=
  ∃ (g cap i : Nat), e = .returned (.slice (some ⟨g, 0, none⟩) (n + 1) cap) ∧ w'.ownsRow B 25 1 (.slice (some ⟨g, 0, none⟩) (n + 1) cap) (n + 1) (flts (insAt xs x i)) ∧ i ≤ n ∧ (∀ y ∈ xs.drop i, zv x < zv y) ∧ (∀ j y, i = j + 1 → xs[j]? = some y → zv y ≤ zv x) ∧ Mod (fun k => v.ownBlock = some k) w w' ∧ (v.ownBlock = some g ∨ w.heap.size ≤ g)

/-- The loop's state. -/
structure WS (B n g cap : Nat) (v : Value) (xs : List Nat) (x i : Nat) (w w' : World) : Prop where
  own : w'.ownsRow B 25 1 (.slice (some ⟨g, 0, none⟩) (n + 1) cap) (n + 1) (flts (insAt xs x i))
  gt : ∀ y ∈ xs.drop i, zv x < zv y
  mod : Mod (fun k => v.ownBlock = some k) w w'
  at' : v.ownBlock = some g ∨ w.heap.size ≤ g

theorem WS.step {B n g cap i y x : Nat} {v : Value} {xs : List Nat} {w w' : World} (h : WS B n g cap v xs x (i + 1) w w') (hy : xs[i]? = some y) (hlt : zv x < zv y) : WS B n g cap v xs x i w ((w'.setCell ⟨g, i + 1, none⟩ (.float .f64 y)).setCell ⟨g, i, none⟩ (.float .f64 x)) := by
  refine ⟨?_, fun z hz => ?_, (h.mod.set (p := ⟨g, i + 1, none⟩) h.at' _).set (p := ⟨g, i, none⟩) h.at' _, h.at'⟩
  · have h2 := own_set_at (i := i) (own_set_at (i := i + 1) h.own (.float .f64 y)) (.float .f64 x)
    rw [flts_set, flts_set, insAt_swap hy] at h2
    exact h2
  · obtain ⟨A, B', rfl, rfl⟩ := split_at hy
    rw [List.drop_left] at hz
    rcases List.mem_cons.1 hz with rfl | hz
    · exact hlt
    · refine h.gt z ?_
      have e : A ++ y :: B' = (A ++ [y]) ++ B' := by simp
      have l : A.length + 1 = (A ++ [y]).length := by simp
      rw [e, l, List.drop_left]
      exact hz

set_option maxHeartbeats 4000000 in
theorem with_at (B n : Nat) (v : Value) (xs : List Nat) (x : Nat) (w : World) (hown : w.ownsRow B 25 1 v n (flts xs)) (hn : n ≤ 2147483647) (hB : B ≤ w.heap.size) (hg : ∀ y ∈ xs, Gn y) (hx : Gn x) :
    Calls Tryz.prog 28 #[v, .float .f64 x] w (WithTold B n v xs x w) := by
  obtain ⟨i0, hi0, hz0, hz1, hz2⟩ := info_parts info_f64
  have HI := Lib.hid (And.intro hi0 (And.intro hz0 (And.intro hz1 hz2)))
  clear hi0 hz0 hz1 hz2
  have hxl : xs.length = n := by have := hown.1; simpa [flts] using this
  have HH := Lib.hid (And.intro hown (And.intro hB (And.intro hg (And.intro hx hxl))))
  clear hown hB hg hx hxl
  go_enter Tryz.func28, Tryz.ntmps28
  go_wp2_with (at_builtin; refine wpList_append_lies _ (by rfl) (.tmp 6) (.tmp 8) 24 (by rfl) B 25 i0 _ 1 8 Tryz.underlying24 HI.out.1 HI.out.2.1 HI.out.2.2.1 HI.out.2.2.2 rfl (by omega) v n (flts xs) (by rfl) ((HH.out.1.kept (Mod.grownBy (Mod.refl _ w)) (Decidable.em _)).alloc _) ⟨w.heap.size, 0, none⟩ 1 1 [.float .f64 x] (by rfl) (by rfl) (World.news_of_block (cs := #[.float .f64 x]) (t := 25) (fr := (0, 0)) (heap_alloc_new w _)) (by simp [Value.oneCell']) (by omega) (by unfold maxLen; omega) (by omega) (by have := HH.out.2.1; simp; omega) (w.heap.size + 1) (by simp) ?_; intro g cap w3 hown3 hgrow hat hlt3; have HG := Lib.hid (And.intro hown3 (And.intro hgrow hat)); clear hown3 hgrow hat)
  have hws : WS B n g cap v xs x n w w3 := by
    obtain ⟨h1, h2, h3⟩ := HG.out
    refine ⟨?_, fun y hy => ?_, ((Mod.refl _ w).alloc _).grown h2 (fun k e _ => e), ?_⟩
    · have e : flts xs ++ [.float .f64 x] = flts (insAt xs x n) := by rw [← HH.out.2.2.2.2, insAt_end, ← flts_app]; rfl
      rw [e] at h1
      exact h1
    · rw [← HH.out.2.2.2.2, List.drop_length] at hy; cases hy
    · rcases h3 with h3 | h3
      · exact .inl h3
      · exact .inr (by omega)
  have HW0 := Lib.hid hws
  clear hws
  go_loopw [5] (fun i w' => ∃ k : Nat, k ≤ n ∧ i = .int .i64 k ∧ Hid (WS B n g cap v xs x k w w')) (fun i _ => (intOf i).toNat)
  case atStart => exact ⟨n, Nat.le_refl _, by go_num, HW0.out⟩
  case round =>
    obtain ⟨k, hk, rfl, HR⟩ := hrel
    cases k with
    | zero =>
      go_wp2
      go_ret
      exact ⟨g, cap, 0, rfl, HR.out.own, Nat.zero_le _, HR.out.gt, (fun j y e => by omega), HR.out.mod, HR.out.at'⟩
    | succ j =>
      obtain ⟨y, hy⟩ : ∃ y, xs[j]? = some y := ⟨_, List.getElem?_eq_getElem (by have := HH.out.2.2.2.2; omega)⟩
      obtain ⟨g1, g2⟩ := insAt_get (x := x) hy
      obtain ⟨c1, z1⟩ := own_at HR.out.own (flts_get g1)
      obtain ⟨c2, z2⟩ := own_at HR.out.own (flts_get g2)
      have gy := HH.out.2.2.1 y (List.mem_of_getElem? hy)
      have hgt := (zv_gd gy).gt (zv_gd HH.out.2.2.2.1)
      have HY := Lib.hid hy
      have j0 : (0 : Int) ≤ j := by omega
      have j1 : (j : Int) < (n : Int) + 1 := by omega
      have j2 : (j : Int) + 1 < (n : Int) + 1 := by omega
      clear hy g1 g2 gy
      by_cases hlt : zv x < zv y
      · rw [decide_eq_true hlt] at hgt
        have HLT := Lib.hid hlt
        clear hlt
        go_wp2
        go_roundw
        case rel => exact ⟨j, by omega, by go_num, HR.out.step HY.out HLT.out⟩
        case measure => simp [intOf]
      · rw [decide_eq_false hlt] at hgt
        have HLT := Lib.hid hlt
        clear hlt
        go_wp2
        go_ret
        exact ⟨g, cap, j + 1, rfl, HR.out.own, hk, HR.out.gt, (fun j' y' e e2 => by
          obtain rfl : j' = j := by omega
          have e3 := HY.out.symm.trans e2
          injection e3 with e3
          subst e3
          have := HLT.out
          omega), HR.out.mod, HR.out.at'⟩
end Go.Proofs.YtmeooadgdagiiaaGreat
