/- The walks of New, Insert and Len of a k-d tree, without boxes. Conditions: as each says. -/
import Derived.Test.YtmeooadgdagiiaaTbBuild
import Derived.Test.YtmeooadgdagiiaaTbIns
import Derived.Test.YtmeooadgdagiiaaTbPlain2
namespace Go.Proofs.Ytmeooadgdagiiaa
open Go.RowKit Lox
set_option linter.unusedVariables false
attribute [local go_sem] run_store_flt run_store_fn

theorem run_assert_bd (S : Value) (lc : Nat) (w : World) : (Instr.typeAssert (.iface 71 (picksV S lc)) 114 116 true).run Try.prog w = .ok (.tuple #[.iface 71 (picksV S lc), .bool true]) w := by kernel_rfl
theorem run_assert_ext (A : Option Addr) (n c : Nat) (w : World) : (Instr.typeAssert (.iface 73 (.slice A n c)) 92 124 true).run Try.prog w = .ok (.tuple #[.iface 73 (.slice A n c), .bool true]) w := by kernel_rfl

/-- A tree's struct, and its nodes. -/
structure TrIn (w : World) (dims tb n : Nat) (mt : MT) : Prop where
  tree : ∃ v, Blk w tb 79 [v, .int .i64 n] ∧ mt.In w v
  nodup : mt.gs.Nodup
  apart : tb ∉ mt.gs
  bare : mt.bare
  each : mt.T.Each (fun _ d => d < dims)
  pts : ∀ p ∈ mt.pts, p.Ok w dims ∧ p.Gr

/-- What New tells. -/
def NewTold (dims pb lc n : Nat) (l : List TP) (ks : List Nat) (w : World) (e : Ending) (w' : World) : Prop :=
  ∃ (tb : Nat) (mt : MT), e = .returned (.pointer (some ⟨tb, 0, none⟩)) ∧ TrIn w' dims tb n mt ∧ mt.T = (KB.build leB dims n l ks 0).1 ∧ w.heap.size ≤ tb ∧ (∀ g ∈ mt.gs, w.heap.size ≤ g) ∧ Mod (fun k => k = pb ∨ k = lc) w w'

theorem new_end {dims pb lc n : Nat} {l : List TP} {ks : List Nat} {w w1 w2 : World} {v : Value} {mt : MT} (hd : 0 < dims) (hl : l.length ≤ n) (hW : WinOk w dims pb lc l) (hg : ∀ p ∈ l, p.Gr)
    (h1 : mt.In w1 v) (h2 : mt.T = (KB.build leB dims n l ks 0).1) (h3 : mt.gs.Nodup) (h4 : ∀ g ∈ mt.gs, w.heap.size ≤ g) (h5 : mt.bare) (h6 : Mod (fun k => k = pb ∨ k = lc) w w1) (h12 : Mod (fun _ => False) w1 w2) :
    NewTold dims pb lc n l ks w (.returned (.pointer (some ⟨w2.heap.size, 0, none⟩))) (w2.alloc (.cells #[v, .int .i64 n] 79)) := by
  have s6 := h6.size
  have s12 := h12.size
  have hin : mt.In w2 v := h1.mod h12 (fun _ _ h => h)
  have hlt := hin.lt
  obtain ⟨a1, a2, a3⟩ := KB.build_all leB dims hd n l ks 0 hl hd
  have hm2 : Mod (fun k => k = pb ∨ k = lc) w (w2.alloc (.cells #[v, .int .i64 n] 79)) := (h6.trans (h12.mono (fun _ _ h => h.elim))).alloc _
  refine ⟨w2.heap.size, mt, rfl, ⟨⟨v, Blk.new' _ _ _, hin.mod ((Mod.refl (fun _ => False) w2).alloc _) (fun _ _ h => h)⟩, h3, fun h => ?_, h5, by rw [h2]; exact a3, fun p hp => ?_⟩, h2, by omega, h4, hm2⟩
  · have := hlt _ h; omega
  · rw [MT.pts_all, h2] at hp
    have hp := a1.mem_iff.1 hp
    exact ⟨((hW.mod hm2).1 p hp).1, hg p hp⟩

set_option maxHeartbeats 2000000 in
theorem build0_at (w : World) (c lc : Nat) (X : Option Addr) :
    Calls Try.prog 62 #[.iface 71 (picksV (.slice X 0 c) lc), .int .i64 0] w fun e w' => e = .returned (.pointer none) ∧ Mod (fun _ => False) w w' := by
  have m1 := kmeth_len
  go_enter Try.func62, Try.ntmps62
  go_wp2_with (go_at_call 124; refine (klen_at _ X 0 c lc).mono ?_; rintro _ w1 ⟨rfl, hm1⟩)
  go_ret
  exact ⟨rfl, hm1⟩

/-- What New asks of build. -/
def Built (dims pb lc n : Nat) (l : List TP) (ks : List Nat) (w : World) (e : Ending) (w' : World) : Prop :=
  ∃ (v : Value) (mt : MT), e = .returned v ∧ mt.In w' v ∧ mt.T = (KB.build leB dims n l ks 0).1 ∧ mt.gs.Nodup ∧ (∀ g ∈ mt.gs, w.heap.size ≤ g) ∧ mt.bare ∧ Mod (fun k => k = pb ∨ k = lc) w w'

set_option maxRecDepth 100000 in
set_option maxHeartbeats 4000000 in
theorem new_at (w : World) (dims pb lc n c : Nat) (X : Option Addr) (l : List TP) (ks : List Nat) (hne : lc ≠ pb) (hdm : 0 < dims ∧ dims ≤ 1099511627776) (hn : l.length = n) (hX : 0 < n → X = some ⟨pb, 0, none⟩ ∧ TPs w pb l) (hW : WinOk w dims pb lc l) (hg : ∀ p ∈ l, p.Gr) (hK : PK w lc pb ks)
    (hl : n ≤ 1099511627776) (hc : n ≤ c) (hc2 : c ≤ 9223372036854775807) :
    Calls Try.prog 30 #[.iface 71 (picksV (.slice X n c) lc), .bool false] w (NewTold dims pb lc n l ks w) := by
  have m1 := kmeth_len
  have ma := run_assert_bd
  have HB : Hid (∀ w1 : World, w1 = w → Calls Try.prog 62 #[.iface 71 (picksV (.slice X n c) lc), .int .i64 0] w1 (Built dims pb lc n l ks w)) := by
    intro w1 hw
    subst hw
    by_cases hn0 : n = 0
    · subst hn0
      have hl0 : l = [] := List.length_eq_zero_iff.1 hn
      subst hl0
      exact (build0_at w1 c lc X).mono fun e w' ⟨he, hm⟩ => ⟨_, .nil, he, rfl, rfl, List.nodup_nil, fun g hg => (by cases hg), trivial, hm.mono (fun _ _ h => h.elim)⟩
    obtain ⟨hX1, hT⟩ := hX (by omega)
    have hb := build_at dims pb lc hne hdm n w1 0 n c 0 X [] l [] ks rfl hn (Nat.le_refl _) (by simpa using hT) (fun h => hX1) hW hK (by simpa [hn] using hl) hc hc2 hdm.1
    exact hb.mono fun e w' ⟨v, mt, q0, q1, q2, q3, q4, q5, _, _, q9⟩ => ⟨v, mt, q0, q1, q2, q3, q4, q5, q9⟩
  have HK := Lib.hid (And.intro hn (And.intro hW hg))
  clear hn hX hW hg hK
  go_enter Try.func30, Try.ntmps30
  go_wp2_with (first
    | (go_at_call 62; refine (HB.out _ rfl).mono ?_; rintro _ w1 ⟨v, mt, rfl, q1, q2, q3, q4, q5, q9⟩; obtain ⟨qv, rfl⟩ := q1.ptr; have HQ := Lib.hid (And.intro q1 (And.intro q2 (And.intro q3 (And.intro q4 (And.intro q5 q9))))); clear q1 q2 q3 q4 q5 q9)
    | (go_at_call 124; refine (klen_at _ X n c lc).mono ?_; rintro _ w2 ⟨rfl, hm2⟩; have HM2 := Lib.hid hm2; clear hm2))
  go_ret
  exact new_end hdm.1 (by rw [HK.out.1]; exact Nat.le_refl _) HK.out.2.1 HK.out.2.2 HQ.out.1 HQ.out.2.1 HQ.out.2.2.1 HQ.out.2.2.2.1 HQ.out.2.2.2.2.1 HQ.out.2.2.2.2.2 HM2.out

/-- What Insert tells. -/
def TInsTold (dims tb n : Nat) (q : TP) (mt : MT) (w : World) (e : Ending) (w' : World) : Prop :=
  ∃ mt' : MT, e = .returned (.tuple #[]) ∧ TrIn w' dims tb (n + 1) mt' ∧ mt'.T = KB.ins leB dims q 0 mt.T ∧ (∀ g ∈ mt'.gs, g ∈ mt.gs ∨ w.heap.size ≤ g) ∧ Mod (fun k => k = tb ∨ k ∈ mt.gs) w w'

theorem tins_end {dims tb n : Nat} {q : TP} {mt mt' : MT} {w w1 : World} {v v' : Value} (hd : 0 < dims) (hb : Blk w tb 79 [v, .int .i64 n]) (hT : TrIn w dims tb n mt) (hq : q.Ok w dims) (hg : q.Gr)
    (h1 : mt'.In w1 v') (h2 : mt'.T = KB.ins leB dims q 0 mt.T) (h3 : mt'.gs.Nodup) (h4 : ∀ g ∈ mt'.gs, g ∈ mt.gs ∨ w.heap.size ≤ g) (h5 : mt.bare → mt'.bare) (h6 : Mod (fun k => k ∈ mt.gs) (w.setCell ⟨tb, 1, none⟩ (.int .i64 ((n : Int) + 1))) w1) :
    TInsTold dims tb n q mt w (.returned (.tuple #[])) (w1.setCell ⟨tb, 0, none⟩ v') := by
  have htb := hb.lt
  have hm0 : Mod (fun k => k = tb ∨ k ∈ mt.gs) w (w.setCell ⟨tb, 1, none⟩ (.int .i64 ((n : Int) + 1))) := (Mod.refl _ _).set (.inl (.inl rfl)) _
  have hm1 : Mod (fun k => k = tb ∨ k ∈ mt.gs) w w1 := hm0.trans (h6.mono (fun _ _ h => .inr h))
  have hm2 : Mod (fun k => k = tb ∨ k ∈ mt.gs) w (w1.setCell ⟨tb, 0, none⟩ v') := hm1.set (.inl (.inl rfl)) _
  have hb1 : Blk w1 tb 79 [v, .int .i64 ((n : Int) + 1)] := (hb.set 1 (.int .i64 ((n : Int) + 1))).mod h6 hT.apart
  have hap : tb ∉ mt'.gs := fun h => by
    rcases h4 tb h with h | h
    · exact hT.apart h
    · omega
  obtain ⟨v0, hb0, hin0⟩ := hT.tree
  refine ⟨mt', rfl, ⟨⟨v', ?_, h1.keep fun k hk _ => Below.heap_setCell _ _ _ _ (fun (e : k = tb) => hap (e ▸ hk))⟩, h3, hap, h5 hT.bare, by rw [h2]; exact KB.ins_each leB dims hd q _ 0 hd hT.each, fun p hp => ?_⟩, h2, h4, hm2⟩
  · have := hb1.set 0 v'
    exact this
  · rw [MT.pts_all, h2] at hp
    have hp := (KB.ins_perm leB dims q mt.T 0).mem_iff.1 hp
    have hnf : ∀ k, k < w.heap.size → (k = tb ∨ k ∈ mt.gs) → NoFlt w k := fun k _ hk => by
      rcases hk with rfl | hk
      · intro o x hc
        rw [hb0.cell] at hc
        obtain ⟨q0, rfl⟩ := hin0.ptr
        have := List.mem_of_getElem? hc
        simp at this
      · exact hin0.noFlt k hk
    rcases List.mem_cons.1 hp with rfl | hp
    · exact ⟨hq.noFlt hm2 hnf, hg⟩
    · rw [← MT.pts_all] at hp
      exact ⟨(hT.pts p hp).1.noFlt hm2 hnf, (hT.pts p hp).2⟩

set_option maxRecDepth 100000 in
set_option maxHeartbeats 4000000 in
theorem tinsert_at (w : World) (dims tb n : Nat) (q : TP) (mt : MT) (hdm : 0 < dims ∧ dims ≤ 1099511627776) (hT : TrIn w dims tb n mt) (hq : q.Ok w dims) (hg : q.Gr) (hn : n ≤ 4294967296) :
    Calls Try.prog 32 #[.pointer (some ⟨tb, 0, none⟩), .iface 73 (.slice q.A dims q.c), .bool false] w (TInsTold dims tb n q mt w) := by
  have ma := run_assert_ext
  obtain ⟨v, hb, hin⟩ := hT.tree
  obtain ⟨qv, rfl⟩ := hin.ptr
  have c0 := hb.at (i := 0) rfl
  have c1 := hb.at (i := 1) rfl
  have f0 := hb.frozen 0
  have f1 := hb.frozen 1
  have hw1 : IntKind.i64.wrap ((n : Int) + 1) = (n : Int) + 1 := IntWalk.i64_in _ (by omega)
  have hnf : ∀ k, k < w.heap.size → k = tb → NoFlt w k := fun k _ hk => by
    subst hk
    intro o x hc
    rw [hb.cell] at hc
    have := List.mem_of_getElem? hc
    simp at this
  have hm0 : Mod (fun k => k = tb) w (w.setCell ⟨tb, 1, none⟩ (.int .i64 ((n : Int) + 1))) := (Mod.refl (fun k => k = tb) w).set (p := ⟨tb, 1, none⟩) (.inl rfl) _
  have HINS : Hid (Calls Try.prog 64 #[.pointer qv, .iface 73 (.slice q.A dims q.c), .int .i64 0] (w.setCell ⟨tb, 1, none⟩ (.int .i64 ((n : Int) + 1))) (InsTold dims 0 q mt (w.setCell ⟨tb, 1, none⟩ (.int .i64 ((n : Int) + 1))))) :=
    insert_at dims hdm q hg mt _ (.pointer qv) 0 0 rfl (hin.mod hm0 (fun k hk (e : k = tb) => hT.apart (e ▸ hk))) hT.nodup (hq.noFlt hm0 hnf) (fun p hp => ⟨(hT.pts p hp).1.noFlt hm0 hnf, (hT.pts p hp).2⟩) hT.each
  have hroot : ∀ g p d bx l r, mt = .node g p d bx l r → qv = some ⟨g, 0, none⟩ ∧ w.cell? ⟨g, 4, none⟩ = some (.pointer none) ∧ g ≠ tb := by
    intro g p d bx l r e
    subst e
    obtain ⟨hv, lv, rv, hbn, _⟩ := hin
    injection hv with hv
    have hbx : bx = none := hT.bare.1
    subst hbx
    exact ⟨hv, hbn.at (i := 4) rfl, fun e => hT.apart (by rw [← e]; simp [MT.gs])⟩
  have hnil : mt = .nil → qv = none := fun e => by
    subst e
    have hv : Value.pointer qv = .pointer none := hin
    injection hv
  have HK := Lib.hid (And.intro hb (And.intro hT (And.intro hq hg)))
  have END : Hid (∀ (e : Ending) (w1 : World), InsTold dims 0 q mt (w.setCell ⟨tb, 1, none⟩ (.int .i64 ((n : Int) + 1))) e w1 → ∃ qw, e = .returned (.pointer qw) ∧ w1.cell? ⟨tb, 0, none⟩ = some (.pointer qv) ∧ w1.frozen? ⟨tb, 0, none⟩ = false ∧ TInsTold dims tb n q mt w (.returned (.tuple #[])) (w1.setCell ⟨tb, 0, none⟩ (.pointer qw))) := by
    rintro e w1 ⟨v', mt', rfl, i1, i2, i3, i4, i5, i6⟩
    obtain ⟨qw, rfl⟩ := i1.ptr
    have hb1 := (hb.set 1 (.int .i64 ((n : Int) + 1))).mod i6 hT.apart
    exact ⟨qw, rfl, hb1.at (i := 0) rfl, hb1.frozen 0, tins_end hdm.1 hb hT hq hg i1 i2 i3 (fun g hgg => by rcases i4 g hgg with h | h; exact .inl h; exact .inr (by simpa [World.setCell] using h)) i5 i6⟩
  clear hb hin hT hq hg hnf hm0
  cases mt with
  | nil =>
    obtain rfl := hnil rfl
    clear hroot hnil
    go_enter Try.func32, Try.ntmps32
    go_wp2_with (go_at_call 64; refine HINS.out.mono ?_; rintro e w1 he; obtain ⟨qw, rfl, y0, z0, hend⟩ := END.out _ _ he; have HE := Lib.hid hend; clear hend he)
    exact bodyPost_end (by simp [results, Try.results32, go_sem]) rfl HE.out
  | node g p d bx l r =>
    obtain ⟨e0, c4, hgt⟩ := hroot g p d bx l r rfl
    subst e0
    clear hroot hnil
    have hgt' : tb ≠ g := Ne.symm hgt
    go_enter Try.func32, Try.ntmps32
    go_wp2_with (go_at_call 64; refine HINS.out.mono ?_; rintro e w1 he; obtain ⟨qw, rfl, y0, z0, hend⟩ := END.out _ _ he; have HE := Lib.hid hend; clear hend he)
    exact bodyPost_end (by simp [results, Try.results32, go_sem]) rfl HE.out

set_option maxHeartbeats 1000000 in
theorem tlen_at (w : World) (tb n : Nat) (v : Value) (hb : Blk w tb 79 [v, .int .i64 n]) :
    Calls Try.prog 35 #[.pointer (some ⟨tb, 0, none⟩)] w fun e w' => e = .returned (.int .i64 n) ∧ w = w' := by
  have c1 := hb.at (i := 1) rfl
  clear hb
  go_enter Try.func35, Try.ntmps35
  go_wp2
  go_ret
  exact ⟨rfl, rfl⟩
end Go.Proofs.Ytmeooadgdagiiaa
