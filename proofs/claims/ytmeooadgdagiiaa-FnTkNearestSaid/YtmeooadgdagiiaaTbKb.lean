/- The walk of KBuild without boxes. Conditions: as it says. -/
import Derived.Test.YtmeooadgdagiiaaTbNew
import Derived.Test.YtmeooadgdagiiaaTbKpts
import Derived.Test.YtmeooadgdagiiaaTbKn
import Derived.Deep.RegionHeld3
import Derived.Deep.DrawnRows
namespace Go.Proofs.Ytmeooadgdagiiaa
open Go.RowKit Lox
set_option linter.unusedVariables false
attribute [local go_sem] run_store_flt run_store_fn
attribute [local go_sem ↓] Go.wp_at_zero Go.wp_at_succ

theorem catch_idle3 (p q r : Addr) (w : World) :
    CallsD Try.prog 28 #[.pointer (some p), .pointer (some q), .pointer (some r)] .returning w fun e u' w' => e = .returned (.tuple #[]) ∧ u' = .returning ∧ w' = w := by
  refine callsD_of_wpS Try.func28 rfl fun c₀ cs hu => ?_
  apply wpS_seq
  apply wpS_region
  simp [wpOpsS, go_sem, recoverD, hu, Try.ntmps28, Exit.thenS]
  refine wpS_cond (t := false) (by simp [Act.eval, Array.replicate]) ?_
  simp only [Bool.false_eq_true, if_false]
  refine wpS_of_wp (wp_skip ?_)
  cases c₀
  simp_all [bodyPostS, results, Try.results28]

theorem init3 (w : World) (H : Nat) (hH : w.heap.size = H) : ∃ W, W = (((w.alloc (.cells #[.slice none 0 0] 28)).alloc (.cells #[.int .i64 0] 3)).alloc (.cells #[.bool false] 4)) ∧ W.heap.size = H + 3 ∧ Mod (fun _ => False) w W ∧
    Blk W H 28 [.slice none 0 0] ∧ Blk W (H + 1) 3 [.int .i64 0] ∧ Blk W (H + 2) 4 [.bool false] := by
  have hs : ∀ (w : World) (o : Obj) (k : Nat), w.heap.size = k → (w.alloc o).heap.size = k + 1 := fun w o k h => by rw [World.size_alloc, h]
  have s1 := hs w (.cells #[.slice none 0 0] 28) H hH
  have s2 := hs _ (.cells #[.int .i64 0] 3) _ s1
  have s3 := hs _ (.cells #[.bool false] 4) _ s2
  have nb : ∀ (w : World) (k : Nat) (c : Array Value) (T : TypeId), w.heap.size = k → Blk (w.alloc (.cells c T)) k T c.toList := fun w k c T h => by subst h; exact Blk.new' w c T
  refine ⟨_, rfl, s3, (((Mod.refl _ _).alloc _).alloc _).alloc _, ?_, ?_, ?_⟩
  · exact ((nb w H _ _ hH).alloc _).alloc _
  · exact (nb _ _ _ _ s1).alloc _
  · exact nb _ _ _ _ s2

/-- What the tree is behind k inserted points. -/
structure BS (W w' : World) (dims H tb n : Nat) (t0 : KB.T TP) (ins : List TP) (k : Nat) (mt : MT) (is : List TP) : Prop where
  tin : TrIn w' dims tb (n + k) mt
  tree : mt.T = KB.inss leB dims t0 is
  same : is.map TP.xs = (ins.take k).map TP.xs
  gr : ∀ p ∈ is, p.Gr
  low : H ≤ tb ∧ ∀ g ∈ mt.gs, H ≤ g
  mod : Mod (fun _ => False) W w'

theorem BS.step {W wr w1 w2 : World} {dims H tb n k : Nat} {t0 : KB.T TP} {ins is : List TP} {mt : MT} {q p : TP} (h : BS W wr dims H tb n t0 ins k mt is) (hH : W.heap.size = H) (hp : q.xs = p.xs) (hk : ins.take (k + 1) = ins.take k ++ [p]) (hg : q.Gr) (h1 : Mod (fun _ => False) wr w1)
    {e : Ending} (ht : TInsTold dims tb (n + k) q mt w1 e w2) : e = .returned (.tuple #[]) ∧ ∃ mt', BS W w2 dims H tb n t0 ins (k + 1) mt' (is ++ [q]) := by
  obtain ⟨mt', he, a1, a2, a3, a4⟩ := ht
  have s1 := h1.size
  have s0 := h.mod.size
  refine ⟨he, mt', ⟨a1, by rw [a2, h.tree, KB.inss_snoc], by rw [List.map_append, h.same, hk, List.map_append]; simp [hp], fun x hx => ?_, ⟨h.low.1, fun g hg => ?_⟩, (h.mod.trans h1).trans' a4 fun i hi hi2 => ?_⟩⟩
  · rcases List.mem_append.1 hx with hx | hx
    · exact h.gr x hx
    · rw [List.mem_singleton.1 hx]; exact hg
  · rcases a3 g hg with h2 | h2
    · exact h.low.2 g h2
    · omega
  · rcases hi2 with h2 | h2
    · have := h.low.1; omega
    · have := h.low.2 i h2; omega

/-- What KBuild tells. -/
def KbTold (dims n m : Nat) (ps ins : List TP) (ks : List Nat) (w : World) (e : Ending) (w' : World) : Prop :=
  ∃ (v : Value) (rs : List KR) (mt : MT) (qs is : List TP), e = .returned (.tuple #[v, .int .i64 ((n + m : Nat) : Int), .bool true]) ∧ KS w.heap.size w' dims v rs ∧ rs.map KR.plain = mt.flat 0 ∧ mt.T = KB.inss leB dims (KB.build leB dims n qs ks 0).1 is ∧ mt.bare ∧
    qs.map TP.xs = ps.map TP.xs ∧ is.map TP.xs = ins.map TP.xs ∧ Mod (fun _ => False) w w' ∧ (∃ A c, v = .slice A rs.length c)

theorem gr_same {ps qs : List TP} (h : qs.map TP.xs = ps.map TP.xs) (hg : ∀ p ∈ ps, p.Gr) : ∀ q ∈ qs, q.Gr := by
  intro q hq
  have : q.xs ∈ ps.map TP.xs := by rw [← h]; exact List.mem_map_of_mem hq
  obtain ⟨p, hp, e⟩ := List.mem_map.1 this
  have := hg p hp
  unfold TP.Gr TP.n at *
  rw [← e]
  exact this

/-- What stands ahead of New. -/
theorem kb_ready {w4 w6 : World} {dims pb nk : Nat} {A4 : Option Addr} {c4 : Nat} {ks : List Nat} {qs : List TP} (hnk : ks.length = nk) (h4 : Sl w4 A4 nk 1 (ints (ks.map Int.ofNat))) (hc : nk ≤ c4 ∧ c4 ≤ 9223372036854775807) (hks : ∀ k ∈ ks, k ≤ 9223372036854775807)
    (h6 : Mod (fun _ => False) (w4.alloc (.cells #[.slice A4 nk c4] 23)) w6) (hpb : (w4.alloc (.cells #[.slice A4 nk c4] 23)).heap.size ≤ pb) (hq : ∀ p ∈ qs, p.Okp w6 dims pb ∧ ∀ b o, p.A = some ⟨b, o, none⟩ → (w4.alloc (.cells #[.slice A4 nk c4] 23)).heap.size ≤ b) :
    w4.heap.size ≠ pb ∧ WinOk w6 dims pb w4.heap.size qs ∧ PK w6 w4.heap.size pb ks := by
  subst hnk
  rw [World.size_alloc] at hpb hq
  refine ⟨by omega, ⟨fun p hp => (hq p hp).1, fun p hp b o e => by have := (hq p hp).2 b o e; omega⟩, A4, c4, (Blk.new' w4 _ _).mod h6 (fun h => h), (h4.alloc _).mod h6, hc.1, hc.2, hks, fun h0 b o e => ?_⟩
  have := h4.far (by omega) h0 b o e
  constructor <;> omega

theorem gr_xs {p q : TP} (h : p.Gr) (e : q.xs = p.xs) : q.Gr := by
  unfold TP.Gr TP.n at *
  rw [e]
  exact h

theorem TrIn.mod {w w' : World} {dims tb n : Nat} {mt : MT} (h : TrIn w dims tb n mt) (hm : Mod (fun _ => False) w w') : TrIn w' dims tb n mt := by
  obtain ⟨v, hb, hin⟩ := h.tree
  exact ⟨⟨v, hb.mod hm (fun h => h), hin.mod hm (fun _ _ h => h)⟩, h.nodup, h.apart, h.bare, h.each, fun p hp => ⟨(h.pts p hp).1.mod0 hm, (h.pts p hp).2⟩⟩

theorem MT.count_pts : ∀ t : MT, t.pts.length = t.count := by
  intro t
  induction t with
  | nil => rfl
  | node g p d bx l r ihl ihr => simp only [MT.pts, MT.count, List.length_append, List.length_cons, ihl, ihr]; omega

theorem kb_count {dims : Nat} {t0 : KB.T TP} {mt : MT} {is : List TP} (h : mt.T = KB.inss leB dims t0 is) : mt.count = t0.all.length + is.length := by
  rw [← MT.count_pts, MT.pts_all, h, (KB.inss_perm leB dims is t0).length_eq, List.length_append]

theorem kb_size {dims n : Nat} {ks : List Nat} {qs : List TP} (hd : 0 < dims) (hl : qs.length = n) : (KB.build leB dims n qs ks 0).1.all.length = n := by
  rw [(KB.build_all leB dims hd n qs ks 0 (by omega) hd).1.length_eq, hl]

theorem KS.keepB {B B' : Nat} {w W : World} {dims : Nat} {v : Value} {rs : List KR} (h : KS B w dims v rs) (hk : ∀ j, B ≤ j → W.heap[j]? = w.heap[j]?) (hB : B' ≤ B) : KS B' W dims v rs := by
  have kp : ∀ p : TP, p.Own B w dims v → p.Own B' W dims v := fun p hp => by
    refine ⟨⟨hp.1.1, hp.1.2.1, fun h0 => ?_⟩, fun b o e => ⟨by have := (hp.2 b o e).1; omega, (hp.2 b o e).2⟩⟩
    obtain ⟨b, o, e, hc⟩ := hp.1.2.2 h0
    exact ⟨b, o, e, fun j u hu => (World.cell?_of_block (w := w) (hk b (hp.2 b o e).1)).trans (hc j u hu)⟩
  refine ⟨⟨h.own.1, ?_⟩, fun x hx => ⟨kp _ (h.ok x hx).1, (h.ok x hx).2.1.imp id (kp _), (h.ok x hx).2.2.imp id (kp _)⟩⟩
  rcases h.own.2 with h | ⟨g, cap, cur, e1, hB1, hg, rest⟩
  · exact .inl h
  · exact .inr ⟨g, cap, cur, e1, by omega, (hk g hB1).trans hg, rest⟩

theorem kb_first {W3 w4 w6 w7 : World} {dims H tb n pb : Nat} {o : Obj} {qs ins : List TP} {ks : List Nat} {mt : MT} (h3 : W3.heap.size = H + 3) (h4 : Mod (fun _ => False) W3 w4) (h6 : Mod (fun _ => False) (w4.alloc o) w6) (hpb : (w4.alloc o).heap.size ≤ pb)
    (t1 : TrIn w7 dims tb n mt) (t2 : mt.T = (KB.build leB dims n qs ks 0).1) (t3 : w6.heap.size ≤ tb) (t4 : ∀ g ∈ mt.gs, w6.heap.size ≤ g) (t5 : Mod (fun k => k = pb ∨ k = w4.heap.size) w6 w7) :
    ∃ t0, t0 = (KB.build leB dims n qs ks 0).1 ∧ BS W3 w7 dims (H + 3) tb n t0 ins 0 mt [] := by
  have s4 := h4.size
  have s6 := h6.size
  rw [World.size_alloc] at s6 hpb
  refine ⟨_, rfl, by simpa using t1, t2, rfl, (fun p hp => by cases hp), ⟨by omega, fun g hg => by have := t4 g hg; omega⟩, ((h4.alloc o).trans h6).trans' t5 fun i hi h => by omega⟩

set_option maxRecDepth 100000 in
set_option maxHeartbeats 8000000 in
theorem kbuild_at (O P I : Option Addr) (n c nk cp m ci dims : Nat) (ps ins : List TP) (ks : List Nat) (w : World) (hp : PRows w O n ps dims) (hi : PRows w I m ins dims) (hnk : ks.length = nk) (hk : Sl w P nk 1 (ints (ks.map Int.ofNat))) (hkA : P = none → cp = 0) (hks : ∀ k ∈ ks, k ≤ 9223372036854775807)
    (hg : ∀ p ∈ ps, p.Gr) (hgi : ∀ p ∈ ins, p.Gr) (hn : n + m ≤ 1000000 ∧ nk ≤ 1000000) (hdm : 0 < dims ∧ dims ≤ 1099511627776) :
    Calls Try.prog 10 #[.slice O n c, .slice P nk cp, .bool false, .slice I m ci] w (KbTold dims n m ps ins ks w) := by
  have hmf : ∀ (fn : Fn) (first cap : Array Value) (w : World), (Instr.makeFunc fn first cap).run Try.prog w = .ok (.func fn first cap) w := fun _ _ _ _ => rfl
  obtain ⟨H, hH⟩ : ∃ H, w.heap.size = H := ⟨_, rfl⟩
  obtain ⟨W3, eW3, z3, m3, q0, q1, q2⟩ := init3 w H hH
  have H3 : Hid (W3.heap.size = H + 3 ∧ Mod (fun _ => False) w W3 ∧ Blk W3 H 28 [.slice none 0 0] ∧ Blk W3 (H + 1) 3 [.int .i64 0] ∧ Blk W3 (H + 2) 4 [.bool false]) := ⟨z3, m3, q0, q1, q2⟩
  have HEW := Lib.hid eW3
  have HP := Lib.hid (And.intro hp (And.intro hi (And.intro hnk (And.intro hk (And.intro hks (And.intro hg hgi))))))
  have HKA := Lib.hid hkA
  clear hp hi hnk hk hkA hks hg hgi z3 m3 q0 q1 q2 eW3
  go_enter_defers Try.func10, Try.ntmps10
  go_wp2_with (first
    | (go_at_call 29; rw [← HEW.out]; refine (ints_any P nk cp (ks.map Int.ofNat) W3 (HP.out.2.2.2.1.mod H3.out.2.1) (by omega) HKA.out).mono ?_; rintro _ w4 ⟨A4, c4, rfl, hs4, hm4, hc4, hcc4, hb4⟩; have H4 := Lib.hid (And.intro hs4 (And.intro hm4 (And.intro hc4 (And.intro hcc4 hb4)))); clear hs4 hm4 hc4 hcc4 hb4)
    | (go_at_call 31; go_loud (refine (kpoints_at O n c dims ps _ (HP.out.1.mod ((H3.out.2.1.trans H4.out.2.1).alloc _)) (by omega) hdm).mono ?_; rintro _ w6 ⟨X, cX, pb, qs, rfl, k1, k2, k3, k4, k5, k6, k7, k8⟩; have H6 := Lib.hid (And.intro k1 (And.intro k2 (And.intro k3 (And.intro k4 (And.intro k5 (And.intro k6 (And.intro k7 k8))))))); have HR := Lib.hid (kb_ready HP.out.2.2.1 H4.out.1 ⟨H4.out.2.2.1, H4.out.2.2.2.1⟩ HP.out.2.2.2.2.1 k5 k6 k8); clear k1 k2 k3 k4 k5 k6 k7 k8))
    | (go_at_call 30; go_loud (refine (new_at _ dims pb w4.heap.size n cX X qs ks HR.out.1 hdm H6.out.1 H6.out.2.2.2.2.2.2.1 HR.out.2.1 (gr_same H6.out.2.1 HP.out.2.2.2.2.2.1) HR.out.2.2 (by omega) H6.out.2.2.1 H6.out.2.2.2.1).mono ?_; rintro _ w7 ⟨tb, mt0, rfl, t1, t2, t3, t4, t5⟩; have HB : Hid (∃ t0, t0 = (KB.build leB dims n qs ks 0).1 ∧ BS W3 w7 dims (H + 3) tb n t0 ins 0 mt0 []) := kb_first H3.out.1 H4.out.2.1 H6.out.2.2.2.2.1 H6.out.2.2.2.2.2.1 t1 t2 t3 t4 t5; clear t1 t2 t3 t4 t5)))
  obtain ⟨t0, ht0, hB0⟩ := HB.out
  have HT0 := Lib.hid ht0
  have HB0 := Lib.hid hB0
  clear ht0 hB0
  go_loopw [26] (fun i w' => ∃ (k : Nat) (mt : MT) (is : List TP), k ≤ m ∧ i = .int .i64 k ∧ Hid (BS W3 w' dims (H + 3) tb n t0 ins k mt is)) (fun i _ => m - (intOf i).toNat)
  case atStart => exact ⟨0, mt0, [], Nat.zero_le _, rfl, HB0.out⟩
  case round =>
    obtain ⟨k, mt, is, hk, rfl, HR2⟩ := hrel
    by_cases hlt : k < m
    · have hpi := HP.out.2.1.mod (H3.out.2.1.trans HR2.out.mod)
      obtain ⟨b, o, v0, e1, e2, c1⟩ := hpi.1.at1 hlt
      have hlen := hpi.len
      have hk2 : k < ins.length := by omega
      obtain ⟨p, ep⟩ : ∃ p, p = ins[k] := ⟨_, rfl⟩
      have hpm : p ∈ ins := by rw [ep]; exact List.getElem_mem hk2
      have hTK : ins.take (k + 1) = ins.take k ++ [p] := by rw [List.take_succ_eq_append_getElem hk2, ep]
      have e3 : (ins.map TP.v)[k]? = some p.v := by rw [ep]; simp [hk2]
      rw [e3] at e2
      cases e2
      obtain ⟨hrd, hpl⟩ := hpi.2 p hpm
      have c2 : wr.cell? ⟨b, o + k, none⟩ = some (.slice p.A dims p.c) := by rw [c1, ← hpl]; rfl
      have hsl : Sl wr p.A dims 1 (flts p.xs) := by rw [← hpl]; exact hrd.1
      have HS := Lib.hid (And.intro hsl (And.intro hpl (And.intro hTK (HP.out.2.2.2.2.2.2 p hpm))))
      subst e1
      clear hpi hlen hk2 ep hpm hTK e3 c1 hrd hpl hsl
      have i0' : (0 : Int) ≤ k := by omega
      have i1' : (k : Int) < m := by omega
      go_wp2_with (first
        | (go_at_call 33; refine (floats_any p.A dims p.c p.xs _ HS.out.1 hdm.2 hdm.1).mono ?_; rintro _ w1 ⟨A2, cc2, rfl, hs2, hm2, hb2⟩; have HW := Lib.hid (And.intro hs2 (And.intro hm2 hb2)); clear hs2 hm2 hb2)
        | (go_at_call 32; refine (tinsert_at _ dims tb (n + k) ⟨A2, cc2, p.xs⟩ mt hdm (HR2.out.tin.mod HW.out.2.1) ⟨HS.out.2.1, by show Sl w1 A2 p.xs.length 1 _; rw [HS.out.2.1]; exact HW.out.1⟩ (gr_xs HS.out.2.2.2 rfl) (by omega)).mono ?_; rintro _ w2 he; obtain ⟨rfl, mt', hB'⟩ := HR2.out.step (q := ⟨A2, cc2, p.xs⟩) (p := p) H3.out.1 rfl HS.out.2.2.1 (gr_xs HS.out.2.2.2 rfl) HW.out.2.1 he; have HB' := Lib.hid hB'; clear hB' he))
      go_roundw
      case rel => exact ⟨k + 1, mt', is ++ [⟨A2, cc2, p.xs⟩], by omega, by go_num, HB'⟩
      case measure => simp [intOf]; omega
    · obtain rfl : k = m := by omega
      obtain ⟨v, hb, hin⟩ := HR2.out.tin.tree
      obtain ⟨qv, rfl⟩ := hin.ptr
      have c0 := hb.at (i := 0) rfl
      have hnil := KS.nil (H + 3) wr dims
      have hin2 : KTr wr dims mt (.pointer qv) (.slice none 0 0) := ⟨hin, fun p hp => ⟨(HR2.out.tin.pts p hp).1, fun b o e e2 => by cases e2⟩, HR2.out.tin.bare⟩
      have hcount : ([] : List KR).length + mt.count ≤ 4294967296 := by
        have h1 := kb_count HR2.out.tree
        rw [HT0.out] at h1
        have h2 := kb_size (ks := ks) hdm.1 H6.out.1
        have h3 := congrArg List.length HR2.out.same
        rw [List.length_map, List.length_map, List.length_take] at h3
        simp only [List.length_nil]
        omega
      have HT1 := Lib.hid (And.intro hin2 (And.intro hnil hcount))
      have HT2 := Lib.hid (And.intro hb hin)
      have hHw : H + 3 ≤ wr.heap.size := by have h1 := HR2.out.mod.size; have h2 := H3.out.1; omega
      have htl := hb.lt
      clear hin2 hnil hcount hb hin
      go_wp2_with (go_at_call 34; refine (knodes_at (H + 3) dims hdm mt _ (.pointer qv) (.slice none 0 0) [] HT1.out.1 HT1.out.2.1 hHw HT1.out.2.2).mono ?_; rintro _ w5 ⟨v', rs, rfl, r1, r2, r3, r4, ⟨A5, c5, r5⟩⟩; obtain ⟨N, hN⟩ : ∃ N, N = ([] ++ rs : List KR).length := ⟨_, rfl⟩; rw [← hN] at r5; subst r5; have hm5 : Mod (fun _ => False) wr w5 := r3.mono (fun _ _ h => by cases h); have b0 := (H3.out.2.2.1.mod HR2.out.mod (fun h => h)).mod hm5 (fun h => h); have y0 := b0.at (i := 0) rfl; have z0 := b0.frozen 0; have H5 := Lib.hid (And.intro r1 (And.intro r2 (And.intro hm5 (And.intro b0 hN)))); clear r1 r2 r3 r4 hm5 b0 hN)
      have hlow := HR2.out.low.1
      have hmw5 : Mod (fun _ => False) w w5 := (H3.out.2.1.trans HR2.out.mod).trans H5.out.2.2.1
      obtain ⟨W6, eW6⟩ : ∃ W6, W6 = w5.setCell ⟨H, 0, none⟩ (.slice A5 N c5) := ⟨_, rfl⟩
      rw [← eW6]
      have d0 : Blk W6 H 28 [.slice A5 N c5] := by rw [eW6]; exact H5.out.2.2.2.1.set 0 _
      have d1 : Blk W6 (H + 1) 3 [.int .i64 0] := by rw [eW6]; exact ((H3.out.2.2.2.1.mod HR2.out.mod (fun h => h)).mod H5.out.2.2.1 (fun h => h)).other _ (by show H ≠ H + 1; omega)
      have d2 : Blk W6 (H + 2) 4 [.bool false] := by rw [eW6]; exact ((H3.out.2.2.2.2.mod HR2.out.mod (fun h => h)).mod H5.out.2.2.1 (fun h => h)).other _ (by show H ≠ H + 2; omega)
      have dt : Blk W6 tb 79 [.pointer qv, .int .i64 ((n + k : Nat) : Int)] := by rw [eW6]; exact (HT2.out.1.mod H5.out.2.2.1 (fun h => h)).other _ (by show H ≠ tb; omega)
      have hm6 : Mod (fun _ => False) w W6 := by rw [eW6]; exact hmw5.set (p := ⟨H, 0, none⟩) (.inr (by show w.heap.size ≤ H; omega)) _
      have hk6 : ∀ j, H + 3 ≤ j → W6.heap[j]? = w5.heap[j]? := fun j hj => by rw [eW6]; exact Below.heap_setCell _ _ _ _ (by show j ≠ H; omega)
      have x0 := d0.at (i := 0) rfl
      have x1 : W6.cell? ⟨H + 1, 0, none⟩ = some (.int .i64 0) := d1.at (i := 0) rfl
      have x2 : W6.cell? ⟨H + 1 + 1, 0, none⟩ = some (.bool false) := d2.at (i := 0) rfl
      have g0 := d0.frozen 0
      have g1 := d1.frozen 0
      have g2 : W6.frozen? ⟨H + 1 + 1, 0, none⟩ = false := d2.frozen 0
      have HD := Lib.hid (And.intro d0 (And.intro d1 (And.intro d2 (And.intro dt (And.intro hm6 hk6)))))
      clear d0 d1 d2 dt hm6 hk6 eW6 hmw5 y0 z0 c0
      have e1 := HD.out.1.set 0 (.slice A5 N c5)
      have e2 := e1.other (a := ⟨H + 1, 0, none⟩) (.int .i64 ((n : Int) + (k : Int))) (by show H + 1 ≠ H; omega)
      have e3 := e2.other (a := ⟨H + 1 + 1, 0, none⟩) (.bool true) (by show H + 1 + 1 ≠ H; omega)
      have v1 : (W6.setCell ⟨H, 0, none⟩ (.slice A5 N c5)).drew.cell? ⟨H, 0, none⟩ = some (.slice A5 N c5) := e1.drew.at (i := 0) rfl
      have v2 : ((W6.setCell ⟨H, 0, none⟩ (.slice A5 N c5)).setCell ⟨H + 1, 0, none⟩ (.int .i64 ((n : Int) + (k : Int)))).drew.cell? ⟨H, 0, none⟩ = some (.slice A5 N c5) := e2.drew.at (i := 0) rfl
      have v3 : (((W6.setCell ⟨H, 0, none⟩ (.slice A5 N c5)).setCell ⟨H + 1, 0, none⟩ (.int .i64 ((n : Int) + (k : Int)))).setCell ⟨H + 1 + 1, 0, none⟩ (.bool true)).drew.cell? ⟨H, 0, none⟩ = some (.slice A5 N c5) := e3.drew.at (i := 0) rfl
      have v0 : W6.drew.cell? ⟨H, 0, none⟩ = some (.slice A5 N c5) := x0
      have HV := Lib.hid (And.intro v1 (And.intro v2 v3))
      clear e1 e2 e3 v1 v2 v3
      go_region_held3 (fun w' => w'.cell? ⟨H, 0, none⟩ = some (.slice A5 N c5)) (first | with_reducible exact v0 | with_reducible exact HV.out.1 | with_reducible exact HV.out.2.1 | with_reducible exact HV.out.2.2 | go_keep)
        (first | (go_at_call 35; refine (tlen_at _ tb (n + k) (.pointer qv) (by first | exact HD.out.2.2.2.1 | exact HD.out.2.2.2.1.drew)).mono ?_; rintro _ _ ⟨rfl, rfl⟩))
      obtain ⟨W7, eW7⟩ : ∃ W7, W7 = (((W6.setCell ⟨H, 0, none⟩ (.slice A5 N c5)).setCell ⟨H + 1, 0, none⟩ (.int .i64 ((n : Int) + (k : Int)))).setCell ⟨H + 1 + 1, 0, none⟩ (.bool true)).drew := ⟨_, rfl⟩
      rw [← eW7]
      have r0 : W7.cell? ⟨H, 0, none⟩ = some (.slice A5 N c5) := by rw [eW7]; exact HV.out.2.2
      have r1 : W7.cell? ⟨H + 1, 0, none⟩ = some (.int .i64 ((n : Int) + (k : Int))) := by
        rw [eW7]
        have q1 := ((HD.out.2.1.other (a := ⟨H, 0, none⟩) (.slice A5 N c5) (by show H ≠ H + 1; omega)).set 0 (.int .i64 ((n : Int) + (k : Int)))).other (a := ⟨H + 1 + 1, 0, none⟩) (.bool true) (by show H + 1 + 1 ≠ H + 1; omega)
        exact q1.drew.at (i := 0) rfl
      have r2 : W7.cell? ⟨H + 1 + 1, 0, none⟩ = some (.bool true) := by
        rw [eW7]
        have q1 := ((HD.out.2.2.1.other (a := ⟨H, 0, none⟩) (.slice A5 N c5) (by show H ≠ H + 2; omega)).other (a := ⟨H + 1, 0, none⟩) (.int .i64 ((n : Int) + (k : Int))) (by show H + 1 ≠ H + 2; omega)).set 0 (.bool true)
        exact q1.drew.at (i := 0) rfl
      have hfin : KbTold dims n k ps ins ks w (.returned (.tuple #[.slice A5 N c5, .int .i64 ((n : Int) + (k : Int)), .bool true])) W7 := by
        obtain ⟨s1, s2, s3, s4, s5⟩ := H5.out
        rw [List.nil_append] at s1 s5
        refine ⟨_, rs, mt, qs, is, by rw [Int.natCast_add], s1.keepB (fun j hj => ?_) (by omega), s2, by rw [HR2.out.tree, HT0.out], HR2.out.tin.bare, H6.out.2.1, ?_, ?_, ⟨A5, c5, by rw [s5]⟩⟩
        · rw [eW7, show ∀ w : World, w.drew.heap = w.heap from fun _ => rfl, Below.heap_setCell _ _ _ _ (by show j ≠ H + 1 + 1; omega), Below.heap_setCell _ _ _ _ (by show j ≠ H + 1; omega), Below.heap_setCell _ _ _ _ (by show j ≠ H; omega)]
          exact HD.out.2.2.2.2.2 j hj
        · rw [HR2.out.same, List.take_of_length_le (by have := HP.out.2.1.len; omega)]
        · rw [eW7]
          exact (((HD.out.2.2.2.2.1.set (p := ⟨H, 0, none⟩) (.inr (by show w.heap.size ≤ H; omega)) _).set (p := ⟨H + 1, 0, none⟩) (.inr (by show w.heap.size ≤ H + 1; omega)) _).set (p := ⟨H + 1 + 1, 0, none⟩) (.inr (by show w.heap.size ≤ H + 1 + 1; omega)) _).drew
      have HFIN := Lib.hid hfin
      have HRR := Lib.hid (And.intro r0 (And.intro r1 r2))
      clear hfin r0 r1 r2 eW7 x0 x1 x2 g0 g1 g2 v0
      go_wp2_with fail
      refine leaves_cons (f := 28) (args := #[.pointer (some ⟨H, 0, none⟩), .pointer (some ⟨H + 1, 0, none⟩), .pointer (some ⟨H + 1 + 1, 0, none⟩)]) (by simp) (by simp [go_sem]) ?_
      refine (catch_idle3 ⟨H, 0, none⟩ ⟨H + 1, 0, none⟩ ⟨H + 1 + 1, 0, none⟩ _).mono ?_
      rintro e u' w'' ⟨rfl, rfl, rfl⟩
      obtain ⟨r0, r1, r2⟩ := HRR.out
      simp [Leaves, settle, results, Try.results10, go_sem, r0, r1, r2]
      exact HFIN.out
end Go.Proofs.Ytmeooadgdagiiaa
