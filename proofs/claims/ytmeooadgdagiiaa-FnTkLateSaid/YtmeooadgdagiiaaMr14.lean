/- Steps of a proof, one behind another: The walk of KBuild with boxes. The walk of the reference's list of the points from a node on. The walk of IsK over the rows of a k-d tree: it says yes. The walk of tEdged: whether a box begins or ends just where a node and a point beside it are. Conditions: as each theorem says. -/
import Derived.Test.YtmeooadgdagiiaaMr13
import Derived.Deep.AppendLies
import Derived.Deep.RegionLaw
import Derived.Deep.DrawnRows
import Derived.Deep.DeepCutAuto

namespace Go.Proofs.Ytmeooadgdagiiaa
open Go.RowKit Lox
set_option linter.unusedVariables false
attribute [local go_sem] run_store_flt run_store_fn
attribute [local go_sem ↓] Go.wp_at_zero Go.wp_at_succ

/-- Each node has the least box of the points on it and below it. -/
def MT.BoxOfs (dims : Nat) : MT → Prop
  | .nil => True
  | .node _ p _ bx l r => (∃ b, bx = some b ∧ BoxOf dims ((l.pts ++ p :: r.pts).map TP.xs) b.mn.xs b.mx.xs) ∧ l.BoxOfs dims ∧ r.BoxOfs dims

theorem MT.Boxed.ofs {w : World} {dims : Nat} : ∀ {t : MT}, t.Boxed w dims → t.BoxOfs dims := by
  intro t
  induction t with
  | nil => intro _; trivial
  | node g p d bx l r ihl ihr =>
    rintro ⟨⟨b, rfl, b1, b2, e1, e2, hb, ho⟩, h1, h2⟩
    exact ⟨⟨b, rfl, ho⟩, ihl h1, ihr h2⟩

theorem TrB.mod {w w' : World} {dims tb n : Nat} {mt : MT} (h : TrB w dims tb n mt) (hm : Mod (fun _ => False) w w') : TrB w' dims tb n mt := by
  obtain ⟨v, hb, hin⟩ := h.tree
  exact ⟨⟨v, hb.mod hm (fun h => h), hin.mod hm (fun _ _ h => h)⟩, h.nodup, h.apart, h.box.mod hm (fun _ _ h => h), h.each, fun p hp => ⟨(h.pts p hp).1.mod0 hm, (h.pts p hp).2⟩, h.far⟩

theorem TrB.fresh {w : World} {dims tb n : Nat} {mt : MT} (h : TrB w dims tb n mt) {b : Nat} (hb : w.heap.size ≤ b) : b ∉ mt.ks ∧ b ≠ tb := by
  obtain ⟨v, hbk, hin⟩ := h.tree
  refine ⟨fun hk => ?_, fun e => ?_⟩
  · have := MT.ks_lt hin h.box b hk; omega
  · have := hbk.lt; omega

/-- What the tree is behind k inserted points. -/
structure BSB (W w' : World) (dims H tb n : Nat) (t0 : KB.T TP) (ins : List TP) (k : Nat) (mt : MT) (is : List TP) : Prop where
  tin : TrB w' dims tb (n + k) mt
  tree : mt.T = KB.inss leB dims t0 is
  same : is.map TP.xs = (ins.take k).map TP.xs
  gr : ∀ p ∈ is, p.Gr
  low : H ≤ tb ∧ ∀ g ∈ mt.ks, H ≤ g
  mod : Mod (fun _ => False) W w'

theorem BSB.step {W wr w1 w2 : World} {dims H tb n k : Nat} {t0 : KB.T TP} {ins is : List TP} {mt : MT} {q p : TP} (h : BSB W wr dims H tb n t0 ins k mt is) (hH : W.heap.size = H) (hp : q.xs = p.xs) (hk : ins.take (k + 1) = ins.take k ++ [p]) (hg : q.Gr) (h1 : Mod (fun _ => False) wr w1)
    {e : Ending} (ht : TInsB dims tb (n + k) q mt w1 e w2) : e = .returned (.tuple #[]) ∧ ∃ mt', BSB W w2 dims H tb n t0 ins (k + 1) mt' (is ++ [q]) := by
  obtain ⟨mt', he, a1, a2, a3, a4⟩ := ht
  have s1 := h1.size
  have s0 := h.mod.size
  refine ⟨he, mt', ⟨a1, by rw [a2, h.tree, KB.inss_snoc], by rw [List.map_append, h.same, hk, List.map_append]; simp [hp], fun x hx => ?_, ⟨h.low.1, fun g hg => ?_⟩, (h.mod.trans h1).trans' a4 fun i hi hi2 => ?_⟩⟩
  · rcases List.mem_append.1 hx with hx | hx
    · exact h.gr x hx
    · rw [List.mem_singleton.1 hx]; exact hg
  · rcases a3 g hg with h2 | h2
    · exact h.low.2 g h2
    · omega
  · rcases hi2 with h2 | h2
    · have := h.low.1; omega
    · have := h.low.2 i h2; omega

/-- What KBuild with boxes tells. -/
def KbToldB (dims n m : Nat) (ps ins : List TP) (ks : List Nat) (w : World) (e : Ending) (w' : World) : Prop :=
  ∃ (v : Value) (rs : List KR) (mt : MT) (qs is : List TP), e = .returned (.tuple #[v, .int .i64 ((n + m : Nat) : Int), .bool true]) ∧ KS w.heap.size w' dims v rs ∧ rs.map KR.plain = mt.flat 0 ∧ mt.T = KB.inss leB dims (KB.build leB dims n qs ks 0).1 is ∧ mt.BoxOfs dims ∧
    qs.map TP.xs = ps.map TP.xs ∧ is.map TP.xs = ins.map TP.xs ∧ Mod (fun _ => False) w w' ∧ (∃ A c, v = .slice A rs.length c)

theorem kbB_first {W3 w4 w6 w7 : World} {dims H tb n pb : Nat} {o : Obj} {qs ins : List TP} {ks : List Nat} {mt : MT} (h3 : W3.heap.size = H + 3) (h4 : Mod (fun _ => False) W3 w4) (h6 : Mod (fun _ => False) (w4.alloc o) w6) (hpb : (w4.alloc o).heap.size ≤ pb)
    (t1 : TrB w7 dims tb n mt) (t2 : mt.T = (KB.build leB dims n qs ks 0).1) (t3 : w6.heap.size ≤ tb) (t4 : ∀ g ∈ mt.ks, w6.heap.size ≤ g) (t5 : Mod (fun k => k = pb ∨ k = w4.heap.size) w6 w7) :
    ∃ t0, t0 = (KB.build leB dims n qs ks 0).1 ∧ BSB W3 w7 dims (H + 3) tb n t0 ins 0 mt [] := by
  have s4 := h4.size
  have s6 := h6.size
  rw [World.size_alloc] at s6 hpb
  refine ⟨_, rfl, by simpa using t1, t2, rfl, (fun p hp => by cases hp), ⟨by omega, fun g hg => by have := t4 g hg; omega⟩, ((h4.alloc o).trans h6).trans' t5 fun i hi h => by omega⟩

set_option maxRecDepth 100000 in
set_option maxHeartbeats 8000000 in
theorem kbuildB_at (O P I : Option Addr) (n c nk cp m ci dims : Nat) (ps ins : List TP) (ks : List Nat) (w : World) (hp : PRows w O n ps dims) (hi : PRows w I m ins dims) (hnk : ks.length = nk) (hk : Sl w P nk 1 (ints (ks.map Int.ofNat))) (hkA : P = none → cp = 0) (hks : ∀ k ∈ ks, k ≤ 9223372036854775807)
    (hg : ∀ p ∈ ps, p.Gr) (hgi : ∀ p ∈ ins, p.Gr) (hn : n + m ≤ 1000000 ∧ nk ≤ 1000000) (hdm : 0 < dims ∧ dims ≤ 1099511627776) :
    Calls Try.prog 10 #[.slice O n c, .slice P nk cp, .bool true, .slice I m ci] w (KbToldB dims n m ps ins ks w) := by
  have hmf : ∀ (fn : Fn) (first cap : Array Value) (w : World), (Instr.makeFunc fn first cap).run Try.prog w = .ok (.func fn first cap) w := fun _ _ _ _ => rfl
  obtain ⟨H, hH⟩ : ∃ H, w.heap.size = H := ⟨_, rfl⟩
  obtain ⟨W3, eW3, z3, m3, q0, q1, q2⟩ := init3 w H hH
  have H3 : Hid (W3.heap.size = H + 3 ∧ Mod (fun _ => False) w W3 ∧ Blk W3 H 28 [.slice none 0 0] ∧ Blk W3 (H + 1) 3 [.int .i64 0] ∧ Blk W3 (H + 2) 4 [.bool false]) := ⟨z3, m3, q0, q1, q2⟩
  have HEW := Lib.hid eW3
  have HP := Lib.hid (And.intro hp (And.intro hi (And.intro hnk (And.intro hk (And.intro hks (And.intro hg hgi))))))
  have HKA := Lib.hid hkA
  clear hp hi hnk hk hkA hks hg hgi z3 m3 q0 q1 q2 eW3
  go_enter_defers Try.func10, Try.ntmps10
  go_wp2_with (first
    | (go_at_call 29; rw [← HEW.out]; refine (ints_any P nk cp (ks.map Int.ofNat) W3 (HP.out.2.2.2.1.mod H3.out.2.1) (by omega) HKA.out).mono ?_; rintro _ w4 ⟨A4, c4, rfl, hs4, hm4, hc4, hcc4, hb4⟩; have H4 := Lib.hid (And.intro hs4 (And.intro hm4 (And.intro hc4 (And.intro hcc4 hb4)))); clear hs4 hm4 hc4 hcc4 hb4)
    | (go_at_call 31; go_loud (refine (kpoints_at O n c dims ps _ (HP.out.1.mod ((H3.out.2.1.trans H4.out.2.1).alloc _)) (by omega) hdm).mono ?_; rintro _ w6 ⟨X, cX, pb, qs, rfl, k1, k2, k3, k4, k5, k6, k7, k8⟩; have H6 := Lib.hid (And.intro k1 (And.intro k2 (And.intro k3 (And.intro k4 (And.intro k5 (And.intro k6 (And.intro k7 k8))))))); have HR := Lib.hid (kb_ready HP.out.2.2.1 H4.out.1 ⟨H4.out.2.2.1, H4.out.2.2.2.1⟩ HP.out.2.2.2.2.1 k5 k6 k8); clear k1 k2 k3 k4 k5 k6 k7 k8))
    | (go_at_call 30; go_loud (refine (newB_at _ dims pb w4.heap.size n cX X qs ks HR.out.1 hdm H6.out.1 H6.out.2.2.2.2.2.2.1 HR.out.2.1 (gr_same H6.out.2.1 HP.out.2.2.2.2.2.1) HR.out.2.2 (by omega) H6.out.2.2.1 H6.out.2.2.2.1).mono ?_; rintro _ w7 ⟨tb, mt0, rfl, t1, t2, t3, t4, t5⟩; have HB : Hid (∃ t0, t0 = (KB.build leB dims n qs ks 0).1 ∧ BSB W3 w7 dims (H + 3) tb n t0 ins 0 mt0 []) := kbB_first H3.out.1 H4.out.2.1 H6.out.2.2.2.2.1 H6.out.2.2.2.2.2.1 t1 t2 t3 t4 t5; clear t1 t2 t3 t4 t5)))
  obtain ⟨t0, ht0, hB0⟩ := HB.out
  have HT0 := Lib.hid ht0
  have HB0 := Lib.hid hB0
  clear ht0 hB0
  go_loopw [26] (fun i w' => ∃ (k : Nat) (mt : MT) (is : List TP), k ≤ m ∧ i = .int .i64 k ∧ Hid (BSB W3 w' dims (H + 3) tb n t0 ins k mt is)) (fun i _ => m - (intOf i).toNat)
  case atStart => exact ⟨0, mt0, [], Nat.zero_le _, rfl, HB0.out⟩
  case round =>
    obtain ⟨k, mt, is, hk, rfl, HR2⟩ := hrel
    by_cases hlt : k < m
    · have hpi := HP.out.2.1.mod (H3.out.2.1.trans HR2.out.mod)
      obtain ⟨b, o, v0, e1, e2, c1⟩ := hpi.1.at1 hlt
      have hlen := hpi.len
      have hk2 : k < ins.length := by omega
      obtain ⟨p, ep⟩ : ∃ p, p = ins[k] := ⟨_, rfl⟩
      have hpm : p ∈ ins := by rw [ep]; exact List.getElem_mem hk2
      have hTK : ins.take (k + 1) = ins.take k ++ [p] := by rw [List.take_succ_eq_append_getElem hk2, ep]
      have e3 : (ins.map TP.v)[k]? = some p.v := by rw [ep]; simp [hk2]
      rw [e3] at e2
      cases e2
      obtain ⟨hrd, hpl⟩ := hpi.2 p hpm
      have c2 : wr.cell? ⟨b, o + k, none⟩ = some (.slice p.A dims p.c) := by rw [c1, ← hpl]; rfl
      have hsl : Sl wr p.A dims 1 (flts p.xs) := by rw [← hpl]; exact hrd.1
      have HS := Lib.hid (And.intro hsl (And.intro hpl (And.intro hTK (HP.out.2.2.2.2.2.2 p hpm))))
      subst e1
      clear hpi hlen hk2 ep hpm hTK e3 c1 hrd hpl hsl
      have i0' : (0 : Int) ≤ k := by omega
      have i1' : (k : Int) < m := by omega
      go_wp2_with (first
        | (go_at_call 33; refine (floats_any p.A dims p.c p.xs _ HS.out.1 hdm.2 hdm.1).mono ?_; rintro _ w1 ⟨A2, cc2, rfl, hs2, hm2, hb2⟩; have HW := Lib.hid (And.intro hs2 (And.intro hm2 hb2)); clear hs2 hm2 hb2)
        | (go_at_call 32; refine (tinsertB_at _ dims tb (n + k) ⟨A2, cc2, p.xs⟩ mt hdm (HR2.out.tin.mod HW.out.2.1) ⟨HS.out.2.1, by show Sl w1 A2 p.xs.length 1 _; rw [HS.out.2.1]; exact HW.out.1⟩ (gr_xs HS.out.2.2.2 rfl) (fun b o e => HR2.out.tin.fresh (HW.out.2.2 b o e)) (by omega)).mono ?_; rintro _ w2 he; obtain ⟨rfl, mt', hB'⟩ := HR2.out.step (q := ⟨A2, cc2, p.xs⟩) (p := p) H3.out.1 rfl HS.out.2.2.1 (gr_xs HS.out.2.2.2 rfl) HW.out.2.1 he; have HB' := Lib.hid hB'; clear hB' he))
      go_roundw
      case rel => exact ⟨k + 1, mt', is ++ [⟨A2, cc2, p.xs⟩], by omega, by go_num, HB'⟩
      case measure => simp [intOf]; omega
    · obtain rfl : k = m := by omega
      obtain ⟨v, hb, hin⟩ := HR2.out.tin.tree
      obtain ⟨qv, rfl⟩ := hin.ptr
      have c0 := hb.at (i := 0) rfl
      have hnil := KS.nil (H + 3) wr dims
      have hin2 : KTrB wr dims mt (.pointer qv) (.slice none 0 0) := ⟨hin, fun p hp => ⟨(HR2.out.tin.pts p hp).1, fun b o e e2 => by cases e2⟩, HR2.out.tin.box, fun k hk e2 => by cases e2⟩
      have hcount : ([] : List KR).length + mt.count ≤ 4294967296 := by
        have h1 := kb_count HR2.out.tree
        rw [HT0.out] at h1
        have h2 := kb_size (ks := ks) hdm.1 H6.out.1
        have h3 := congrArg List.length HR2.out.same
        rw [List.length_map, List.length_map, List.length_take] at h3
        simp only [List.length_nil]
        omega
      have HT1 := Lib.hid (And.intro hin2 (And.intro hnil hcount))
      have HT2 := Lib.hid (And.intro hb hin)
      have hHw : H + 3 ≤ wr.heap.size := by have h1 := HR2.out.mod.size; have h2 := H3.out.1; omega
      have htl := hb.lt
      clear hin2 hnil hcount hb hin
      go_wp2_with (go_at_call 34; refine (knodesB_at (H + 3) dims hdm mt _ (.pointer qv) (.slice none 0 0) [] HT1.out.1 HT1.out.2.1 hHw HT1.out.2.2).mono ?_; rintro _ w5 ⟨v', rs, rfl, r1, r2, r3, r4, ⟨A5, c5, r5⟩⟩; obtain ⟨N, hN⟩ : ∃ N, N = ([] ++ rs : List KR).length := ⟨_, rfl⟩; rw [← hN] at r5; subst r5; have hm5 : Mod (fun _ => False) wr w5 := r3.mono (fun _ _ h => by cases h); have b0 := (H3.out.2.2.1.mod HR2.out.mod (fun h => h)).mod hm5 (fun h => h); have y0 := b0.at (i := 0) rfl; have z0 := b0.frozen 0; have H5 := Lib.hid (And.intro r1 (And.intro r2 (And.intro hm5 (And.intro b0 hN)))); clear r1 r2 r3 r4 hm5 b0 hN)
      have hlow := HR2.out.low.1
      have hmw5 : Mod (fun _ => False) w w5 := (H3.out.2.1.trans HR2.out.mod).trans H5.out.2.2.1
      obtain ⟨W6, eW6⟩ : ∃ W6, W6 = w5.setCell ⟨H, 0, none⟩ (.slice A5 N c5) := ⟨_, rfl⟩
      rw [← eW6]
      have d0 : Blk W6 H 28 [.slice A5 N c5] := by rw [eW6]; exact H5.out.2.2.2.1.set 0 _
      have d1 : Blk W6 (H + 1) 3 [.int .i64 0] := by rw [eW6]; exact ((H3.out.2.2.2.1.mod HR2.out.mod (fun h => h)).mod H5.out.2.2.1 (fun h => h)).other _ (by show H ≠ H + 1; omega)
      have d2 : Blk W6 (H + 2) 4 [.bool false] := by rw [eW6]; exact ((H3.out.2.2.2.2.mod HR2.out.mod (fun h => h)).mod H5.out.2.2.1 (fun h => h)).other _ (by show H ≠ H + 2; omega)
      have dt : Blk W6 tb 79 [.pointer qv, .int .i64 ((n + k : Nat) : Int)] := by rw [eW6]; exact (HT2.out.1.mod H5.out.2.2.1 (fun h => h)).other _ (by show H ≠ tb; omega)
      have hm6 : Mod (fun _ => False) w W6 := by rw [eW6]; exact hmw5.set (p := ⟨H, 0, none⟩) (.inr (by show w.heap.size ≤ H; omega)) _
      have hk6 : ∀ j, H + 3 ≤ j → W6.heap[j]? = w5.heap[j]? := fun j hj => by rw [eW6]; exact Below.heap_setCell _ _ _ _ (by show j ≠ H; omega)
      have x0 := d0.at (i := 0) rfl
      have x1 : W6.cell? ⟨H + 1, 0, none⟩ = some (.int .i64 0) := d1.at (i := 0) rfl
      have x2 : W6.cell? ⟨H + 1 + 1, 0, none⟩ = some (.bool false) := d2.at (i := 0) rfl
      have g0 := d0.frozen 0
      have g1 := d1.frozen 0
      have g2 : W6.frozen? ⟨H + 1 + 1, 0, none⟩ = false := d2.frozen 0
      have HD := Lib.hid (And.intro d0 (And.intro d1 (And.intro d2 (And.intro dt (And.intro hm6 hk6)))))
      clear d0 d1 d2 dt hm6 hk6 eW6 hmw5 y0 z0 c0
      have e1 := HD.out.1.set 0 (.slice A5 N c5)
      have e2 := e1.other (a := ⟨H + 1, 0, none⟩) (.int .i64 ((n : Int) + (k : Int))) (by show H + 1 ≠ H; omega)
      have e3 := e2.other (a := ⟨H + 1 + 1, 0, none⟩) (.bool true) (by show H + 1 + 1 ≠ H; omega)
      have v1 : (W6.setCell ⟨H, 0, none⟩ (.slice A5 N c5)).drew.cell? ⟨H, 0, none⟩ = some (.slice A5 N c5) := e1.drew.at (i := 0) rfl
      have v2 : ((W6.setCell ⟨H, 0, none⟩ (.slice A5 N c5)).setCell ⟨H + 1, 0, none⟩ (.int .i64 ((n : Int) + (k : Int)))).drew.cell? ⟨H, 0, none⟩ = some (.slice A5 N c5) := e2.drew.at (i := 0) rfl
      have v3 : (((W6.setCell ⟨H, 0, none⟩ (.slice A5 N c5)).setCell ⟨H + 1, 0, none⟩ (.int .i64 ((n : Int) + (k : Int)))).setCell ⟨H + 1 + 1, 0, none⟩ (.bool true)).drew.cell? ⟨H, 0, none⟩ = some (.slice A5 N c5) := e3.drew.at (i := 0) rfl
      have v0 : W6.drew.cell? ⟨H, 0, none⟩ = some (.slice A5 N c5) := x0
      have HV := Lib.hid (And.intro v1 (And.intro v2 v3))
      clear e1 e2 e3 v1 v2 v3
      go_region_held3 (fun w' => w'.cell? ⟨H, 0, none⟩ = some (.slice A5 N c5)) (first | with_reducible exact v0 | with_reducible exact HV.out.1 | with_reducible exact HV.out.2.1 | with_reducible exact HV.out.2.2 | go_keep)
        (first | (go_at_call 35; refine (tlen_at _ tb (n + k) (.pointer qv) (by first | exact HD.out.2.2.2.1 | exact HD.out.2.2.2.1.drew)).mono ?_; rintro _ _ ⟨rfl, rfl⟩))
      obtain ⟨W7, eW7⟩ : ∃ W7, W7 = (((W6.setCell ⟨H, 0, none⟩ (.slice A5 N c5)).setCell ⟨H + 1, 0, none⟩ (.int .i64 ((n : Int) + (k : Int)))).setCell ⟨H + 1 + 1, 0, none⟩ (.bool true)).drew := ⟨_, rfl⟩
      rw [← eW7]
      have r0 : W7.cell? ⟨H, 0, none⟩ = some (.slice A5 N c5) := by rw [eW7]; exact HV.out.2.2
      have r1 : W7.cell? ⟨H + 1, 0, none⟩ = some (.int .i64 ((n : Int) + (k : Int))) := by
        rw [eW7]
        have q1 := ((HD.out.2.1.other (a := ⟨H, 0, none⟩) (.slice A5 N c5) (by show H ≠ H + 1; omega)).set 0 (.int .i64 ((n : Int) + (k : Int)))).other (a := ⟨H + 1 + 1, 0, none⟩) (.bool true) (by show H + 1 + 1 ≠ H + 1; omega)
        exact q1.drew.at (i := 0) rfl
      have r2 : W7.cell? ⟨H + 1 + 1, 0, none⟩ = some (.bool true) := by
        rw [eW7]
        have q1 := ((HD.out.2.2.1.other (a := ⟨H, 0, none⟩) (.slice A5 N c5) (by show H ≠ H + 2; omega)).other (a := ⟨H + 1, 0, none⟩) (.int .i64 ((n : Int) + (k : Int))) (by show H + 1 ≠ H + 2; omega)).set 0 (.bool true)
        exact q1.drew.at (i := 0) rfl
      have hfin : KbToldB dims n k ps ins ks w (.returned (.tuple #[.slice A5 N c5, .int .i64 ((n : Int) + (k : Int)), .bool true])) W7 := by
        obtain ⟨s1, s2, s3, s4, s5⟩ := H5.out
        rw [List.nil_append] at s1 s5
        refine ⟨_, rs, mt, qs, is, by rw [Int.natCast_add], s1.keepB (fun j hj => ?_) (by omega), s2, by rw [HR2.out.tree, HT0.out], HR2.out.tin.box.ofs, H6.out.2.1, ?_, ?_, ⟨A5, c5, by rw [s5]⟩⟩
        · rw [eW7, show ∀ w : World, w.drew.heap = w.heap from fun _ => rfl, Below.heap_setCell _ _ _ _ (by show j ≠ H + 1 + 1; omega), Below.heap_setCell _ _ _ _ (by show j ≠ H + 1; omega), Below.heap_setCell _ _ _ _ (by show j ≠ H; omega)]
          exact HD.out.2.2.2.2.2 j hj
        · rw [HR2.out.same, List.take_of_length_le (by have := HP.out.2.1.len; omega)]
        · rw [eW7]
          exact (((HD.out.2.2.2.2.1.set (p := ⟨H, 0, none⟩) (.inr (by show w.heap.size ≤ H; omega)) _).set (p := ⟨H + 1, 0, none⟩) (.inr (by show w.heap.size ≤ H + 1; omega)) _).set (p := ⟨H + 1 + 1, 0, none⟩) (.inr (by show w.heap.size ≤ H + 1 + 1; omega)) _).drew
      have HFIN := Lib.hid hfin
      have HRR := Lib.hid (And.intro r0 (And.intro r1 r2))
      clear hfin r0 r1 r2 eW7 x0 x1 x2 g0 g1 g2 v0
      go_wp2_with fail
      refine leaves_cons (f := 28) (args := #[.pointer (some ⟨H, 0, none⟩), .pointer (some ⟨H + 1, 0, none⟩), .pointer (some ⟨H + 1 + 1, 0, none⟩)]) (by simp) (by simp [go_sem]) ?_
      refine (catch_idle3 ⟨H, 0, none⟩ ⟨H + 1, 0, none⟩ ⟨H + 1 + 1, 0, none⟩ _).mono ?_
      rintro e u' w'' ⟨rfl, rfl, rfl⟩
      obtain ⟨r0, r1, r2⟩ := HRR.out
      simp [Leaves, settle, results, Try.results10, go_sem, r0, r1, r2]
      exact HFIN.out
end Go.Proofs.Ytmeooadgdagiiaa

namespace Go.Proofs.Ytmeooadgdagiiaa.W
open Go.RowKit Lox
set_option linter.unusedVariables false
attribute [local go_sem] run_store_flt run_store_fn
attribute [local go_sem ↓] Go.wp_at_zero Go.wp_at_succ

theorem info_row2 : (Try.prog.info? 26).map (fun i => (i.zero, i.size, i.bytes)) = some (some (.slice none 0 0), 1, 24) := by kernel_rfl

/-- A node's point, as a value. -/
def PV (xs : List KN) (k : Nat) : Value := ((xs[k]?).map fun x => x.p.v).getD (.slice none 0 0)

/-- What KBelow tells. -/
def BelowTold (xs : List KN) (s : SH) (w : World) (e : Ending) (w' : World) : Prop :=
  ∃ v, e = .returned v ∧ w'.ownsRow w.heap.size 26 1 v s.ord.length (s.ord.map (PV xs)) ∧ Mod (fun _ => False) w w'

theorem ownsRow_low {w : World} {B B' e n : Nat} {v : Value} {xs : List Value} (h : w.ownsRow B e 1 v n xs) (hB : B' ≤ B) : w.ownsRow B' e 1 v n xs := by
  refine ⟨h.1, ?_⟩
  rcases h.2 with h | ⟨g, cap, cur, e1, hb, rest⟩
  · exact .inl h
  · exact .inr ⟨g, cap, cur, e1, by omega, rest⟩

theorem own_form {w : World} {B e n : Nat} {v : Value} {xs : List Value} (h : w.ownsRow B e 1 v n xs) : ∃ A c, v = .slice A n c ∧ c ≤ 9223372036854775807 ∧ Sl w A n 1 xs := by
  rcases h.2 with ⟨rfl, h0⟩ | ⟨g, cap, cur, rfl, hB, hg, hc, hcm, hsz, ht⟩
  · subst h0
    exact ⟨none, 0, rfl, by omega, by have := h.1; simpa using this, fun h => by omega⟩
  · refine ⟨_, cap, rfl, by unfold maxLen at hcm; exact hcm, h.1, fun _ => ⟨g, 0, rfl, fun j u hu => ?_⟩⟩
    have := h.cells (g := g) rfl j u hu
    rw [addr_lit] at this
    exact this

theorem below_mid {w W w1 w3 : World} {e n : Nat} {v : Value} {xs : List Value} (ho : w1.ownsRow w.heap.size e 1 v n xs) (hW : Mod (fun _ => False) w W) (hg : W.grownBy w3 v.ownBlock) : Mod (fun _ => False) w w3 :=
  hW.grown hg (fun k e hk => by have := (own_block ho e).1; omega)

theorem pv_one {xs : List KN} {l : List Nat} : ∀ u ∈ l.map (PV xs), u.oneCell' = true := by
  intro u hu
  obtain ⟨k, _, rfl⟩ := List.mem_map.1 hu
  unfold PV
  cases xs[k]? <;> rfl

set_option maxRecDepth 100000 in
set_option maxHeartbeats 4000000 in
theorem below_at (T : Option Addr) (c n : Nat) (xs : List KN) (hn : n = xs.length) (hn2 : n ≤ 2147483647) (s : SH) :
    ∀ (i above : Int) (w : World), s.At (KC xs) (KF xs) n i above → -1 ≤ above → s.ord.length ≤ 2147483647 → KNodes w T xs → Calls Try.prog 36 #[.slice T n c, .int .i64 i] w (BelowTold xs s w) := by
  obtain ⟨i0, hi0, hz0, hz1, hz2⟩ := info_parts info_row2
  have HI := Lib.hid (And.intro hi0 (And.intro hz0 (And.intro hz1 hz2)))
  clear hi0 hz0 hz1 hz2
  induction s with
  | nil =>
    intro i above w hs ha hl hN
    have hi : i = -1 := hs
    subst hi
    clear hs hN
    go_enter Try.func36, Try.ntmps36
    go_wp2
    go_ret
    exact ⟨_, rfl, World.ownsRow_nil _ _ _ _, Mod.refl _ _⟩
  | node k l r ihl ihr =>
    intro i above w hs ha hl hN
    obtain ⟨rfl, h1, h2, h3, h4⟩ := hs
    have hk2 : k < xs.length := by omega
    have ex : xs[k]? = some xs[k] := List.getElem?_eq_getElem hk2
    obtain ⟨b, o, e, hc⟩ := hN.2.1 (by omega)
    have hx := hc k _ ex
    generalize xs[k] = x at hx ex
    have hVC : KC xs k = x.c := by simp [KC, ex]
    have hVF : KF xs k = x.f := by simp [KF, ex]
    have hPV : PV xs k = x.p.v := by simp [PV, ex]
    have hl2 : l.ord.length + 1 + r.ord.length ≤ 2147483647 := by simp only [SH.ord, List.length_append, List.length_cons] at hl; omega
    rw [hVC] at h3
    rw [hVF] at h4
    have HIL : Hid (∀ w1 : World, Mod (fun _ => False) w w1 → Calls Try.prog 36 #[.slice T n c, .int .i64 x.c] w1 (BelowTold xs l w1)) := fun w1 hm => ihl x.c k w1 h3 (by omega) (by omega) (hN.mod hm)
    have HIR : Hid (∀ w1 : World, Mod (fun _ => False) w w1 → Calls Try.prog 36 #[.slice T n c, .int .i64 x.f] w1 (BelowTold xs r w1)) := fun w1 hm => ihr x.f k w1 h4 (by omega) (by omega) (hN.mod hm)
    have HP := Lib.hid hPV
    clear hc hN hk2 ex hVC hVF h3 h4 ihl ihr hl hPV hn
    obtain ⟨⟨A, np, c', ys⟩, pl, cl, fu, mn, mx⟩ := x
    obtain ⟨c0, _, c2, c3, _, _⟩ := hx
    simp only [Pt.v] at c0 c2 c3 HP
    subst e
    have hcl := lt_of_cell c0
    have HC : Hid (∀ w1 : World, Mod (fun _ => False) w w1 → w1.cell? ⟨b, o + k * 6, none⟩ = some (.slice A np c') ∧ w1.cell? ⟨b, o + k * 6 + 2, none⟩ = some (.int .i64 cl) ∧ w1.cell? ⟨b, o + k * 6 + 3, none⟩ = some (.int .i64 fu)) := fun w1 hm => ⟨(hm.cell (lt_of_cell c0) (fun h => h)).trans c0, (hm.cell (lt_of_cell c2) (fun h => h)).trans c2, (hm.cell (lt_of_cell c3) (fun h => h)).trans c3⟩
    have HL2 := Lib.hid hl2
    have tok1 : True := trivial
    have hkz : (k : Int) < n := by omega
    go_enter Try.func36, Try.ntmps36
    go_upto_region 3 with fail
    go_cut [5] from 8 to 21 (fun v wx => Hid (wx.ownsRow w.heap.size 26 1 v (l.ord.length + 1) ((l.ord ++ [k]).map (PV xs)) ∧ Mod (fun _ => False) w wx))
    case first =>
      clear c3
      go_region_law
        (first
          | (go_simp; go_at_call 36; (refine (HIL.out _ (by first | with_reducible exact (Mod.refl _ _).drew | with_reducible exact ((Mod.refl _ _).alloc _).drew)).mono ?_; rintro _ w1 ⟨v1, rfl, ho1, hm1⟩; have hw1 : Mod (fun _ => False) w w1 := (by first | with_reducible exact (Mod.refl _ _).drew.trans hm1 | with_reducible exact ((Mod.refl _ _).alloc _).drew.trans hm1); (try (have hnb : Blk w1 w.heap.size 26 [.slice A np c'] := (Blk.new' w #[.slice A np c'] 26).drew.mod (by with_reducible exact hm1) (fun h => h); have HNB := Lib.hid hnb; clear hnb)); have ho2 : w1.ownsRow w.heap.size 26 1 v1 l.ord.length (l.ord.map (PV xs)) := ownsRow_low ho1 (by first | exact Nat.le_refl _ | (rw [show ∀ x : World, x.drew.heap.size = x.heap.size from fun _ => rfl, World.size_alloc]; omega)); have hz := hw1.size; have c0 := (HC.out _ hw1).1; have c2 := (HC.out _ hw1).2.1; have H1 := Lib.hid (And.intro ho2 hw1); clear ho1 ho2 hm1 hw1))
          | ((refine step_append_lies _ (by rfl) _ _ _ (by rfl) w.heap.size 26 i0 _ 1 24 Try.underlying22 HI.out.1 HI.out.2.1 HI.out.2.2.1 HI.out.2.2.2 rfl (by omega) v1 l.ord.length (l.ord.map (PV xs)) (by rfl) (H1.out.1.alloc _) ⟨w1.heap.size, 0, none⟩ 1 1 [.slice A np c'] (by rfl) (by rfl) (World.news_of_block (cs := #[.slice A np c']) (t := 26) (fr := (0, 0)) (heap_alloc_new w1 _)) (by simp [Value.oneCell']) (by omega) (by have := HL2.out; unfold maxLen; omega) (by have := HL2.out; omega) (by have := hz; simp; omega) (w1.heap.size + 1) (by simp) ?_; intro gg cap w3 hown3 hgrow hat hlt3; have hwm : Mod (fun _ => False) w w3 := below_mid H1.out.1 (H1.out.2.alloc _) hgrow; have H3 := Lib.hid (And.intro hown3 hwm); clear hown3 hgrow hat hlt3 hwm))
          | ((refine step_append_lies _ (by rfl) _ _ _ (by rfl) w.heap.size 26 i0 _ 1 24 Try.underlying22 HI.out.1 HI.out.2.1 HI.out.2.2.1 HI.out.2.2.2 rfl (by omega) v1 l.ord.length (l.ord.map (PV xs)) (by rfl) H1.out.1 ⟨w.heap.size, 0, none⟩ 1 1 [.slice A np c'] (by rfl) (by rfl) (World.news_of_block (cs := #[.slice A np c']) (t := 26) (fr := (0, 0)) HNB.out) (by simp [Value.oneCell']) (by omega) (by have := HL2.out; unfold maxLen; omega) (by have := HL2.out; omega) (by have := hz; omega) w1.heap.size rfl ?_; intro gg cap w3 hown3 hgrow hat hlt3; have hwm : Mod (fun _ => False) w w3 := below_mid H1.out.1 H1.out.2 hgrow; have H3 := Lib.hid (And.intro hown3 hwm); clear hown3 hgrow hat hlt3 hwm)))
      all_goals
        go_wp2_with fail
        go_meet
        exact ⟨by rw [List.map_append, List.map_cons, List.map_nil, HP.out]; exact H3.out.1, H3.out.2⟩
    case rest =>
      have HCC := Lib.hid hcut
      clear hcut c0 c2 c3
      have c3 := (HC.out _ HCC.out.2).2.2
      go_wp2_with (first
        | (go_at_call 36; refine (HIR.out _ HCC.out.2).mono ?_; rintro _ w4 ⟨v2, rfl, ho4, hm4⟩; obtain ⟨X, cX, rfl, hcX, hsX⟩ := own_form ho4; have H4 := Lib.hid (And.intro hsX hm4); clear ho4 hm4 hcX hsX)
        | (at_builtin; refine wpList_append_opt _ rfl _ _ _ rfl w.heap.size 26 i0 (.slice none 0 0) 24 Try.underlying22 HI.out.1 HI.out.2.1 HI.out.2.2.1 HI.out.2.2.2 rfl u5 (l.ord.length + 1) ((l.ord ++ [k]).map (PV xs)) rfl (HCC.out.1.kept H4.out.2.grownBy (Decidable.em _)) X r.ord.length cX (r.ord.map (PV xs)) rfl H4.out.1 pv_one (by have := HL2.out; unfold maxLen; omega) (by have := HL2.out; omega) (by have := HCC.out.2.size; have := H4.out.2.size; omega) ?_; intro v5 w5 hown5 hgrow5; have H5 := Lib.hid (And.intro hown5 (below_mid HCC.out.1 (HCC.out.2.trans H4.out.2) hgrow5)); clear hown5 hgrow5))
      go_ret
      refine ⟨v5, rfl, ?_, H5.out.2⟩
      have h := H5.out.1
      rw [← List.map_append, show (l.ord ++ [k]) ++ r.ord = (SH.node k l r).ord from by simp [SH.ord], show l.ord.length + 1 + r.ord.length = (SH.node k l r).ord.length from by simp [SH.ord]; omega] at h
      exact h
end Go.Proofs.Ytmeooadgdagiiaa.W

namespace Go.Proofs.Ytmeooadgdagiiaa.W
open Go.RowKit Lox
set_option linter.unusedVariables false
attribute [local go_sem] run_store_flt run_store_fn
attribute [local go_sem ↓] Go.wp_at_zero Go.wp_at_succ

/-- A number that is not above another one. -/
def LeW (a b : Nat) : Prop := ∃ m n : Int, Wh a m ∧ Wh b n ∧ m ≤ n
/-- A number that is above another one. -/
def GtW (a b : Nat) : Prop := ∃ m n : Int, Wh a m ∧ Wh b n ∧ n < m

theorem LeW.look {a b : Nat} (h : LeW a b) : (FloatKind.f64.format.order a b == some .lt || FloatKind.f64.format.order a b == some .eq) = true := by
  obtain ⟨m, n, ha, hb, hl⟩ := h
  rw [ha.1.lt hb.1, ha.1.eq hb.1]
  rcases Int.lt_or_eq_of_le hl with h | h
  · rw [decide_eq_true h]; rfl
  · rw [decide_eq_true h, Bool.or_true]

theorem GtW.look {a b : Nat} (h : GtW a b) : FloatKind.f64.format.order a b = some .gt := by
  obtain ⟨m, n, ha, hb, hl⟩ := h
  have := ha.1.gt hb.1
  rw [decide_eq_true hl] at this
  exact eq_of_beq this

/-- Rows that are a k-d tree: each node's plane is one of dims, and along it the points on its left are not above its own, those on its right are. -/
structure IsKd (xs : List KN) (n dims : Nat) : Prop where
  len : n = xs.length
  walk : ∃ s : SH, s.At (KC xs) (KF xs) n 0 (-1) ∧ s.ids.Nodup ∧ s.ids.length = n
  node : ∀ (k : Nat) (x : KN), xs[k]? = some x → x.p.n = dims ∧ ∃ d : Nat, x.pl = d ∧ d < dims ∧ ∃ l r : SH, l.At (KC xs) (KF xs) n x.c k ∧ r.At (KC xs) (KF xs) n x.f k ∧ l.ord.length ≤ 2147483647 ∧ r.ord.length ≤ 2147483647 ∧
    (∀ j ∈ l.ord, ∃ y, xs[j]? = some y ∧ LeW (y.p.xs.getD d 0) (x.p.xs.getD d 0)) ∧ (∀ j ∈ r.ord, ∃ y, xs[j]? = some y ∧ GtW (y.p.xs.getD d 0) (x.p.xs.getD d 0))

theorem pv_at {xs : List KN} {j : Nat} {y : KN} (h : xs[j]? = some y) : PV xs j = y.p.v := by simp [PV, h]

/-- A point out of a list of points of the tree, and its number along an axis. -/
theorem row_pt {xs : List KN} {n dims : Nat} {T A7 : Option Addr} {W : World} (hK : IsKd xs n dims) (hN : KNodes W T xs) {l : List Nat} {L7 k3 d : Nat} (hs : Sl W A7 L7 1 (l.map (PV xs))) (h : k3 < L7) (hd : d < dims) {P : Nat → Prop} (hl : ∀ i ∈ l, ∃ y, xs[i]? = some y ∧ P (y.p.xs.getD d 0)) :
    ∃ b7 o7 b8 o8 c8 Y, A7 = some ⟨b7, o7, none⟩ ∧ W.cell? ⟨b7, o7 + k3, none⟩ = some (.slice (some ⟨b8, o8, none⟩) dims c8) ∧ W.cell? ⟨b8, o8 + d, none⟩ = some (.float .f64 Y) ∧ P Y := by
  obtain ⟨b7, o7, v, e1, e2, e3⟩ := hs.at1 h
  rw [List.getElem?_map] at e2
  cases hi : l[k3]? with
  | none => rw [hi] at e2; cases e2
  | some i =>
    rw [hi] at e2
    obtain ⟨y, ey, hp⟩ := hl i (List.mem_of_getElem? hi)
    have e2 : PV xs i = v := by simpa using e2
    rw [pv_at ey] at e2
    subst e2
    obtain ⟨hn, _⟩ := hK.node i y ey
    obtain ⟨b8, o8, e8, c8⟩ := ((hN.2.2 y (List.mem_of_getElem? ey)).1).cell (k := d) (by omega)
    exact ⟨b7, o7, b8, o8, y.p.c, _, e1, by rw [e3, Pt.v, e8, hn], c8, hp⟩

set_option maxRecDepth 100000 in
set_option maxHeartbeats 8000000 in
theorem isK_at (T : Option Addr) (c n dims : Nat) (xs : List KN) (w : World) (hK : IsKd xs n dims) (h0 : 0 < n) (hn2 : n ≤ 2147483647) (hdm : dims ≤ 1099511627776) (hN : KNodes w T xs) :
    Calls Try.prog 11 #[.slice T n c, .int .i64 dims, .bool true] w fun e w' => e = .returned (.bool true) ∧ Mod (fun _ => False) w w' := by
  have HK := Lib.hid hK
  have HN := Lib.hid hN
  clear hK hN
  go_enter Try.func11, Try.ntmps11
  go_wp2_with (go_at_call 13; refine (vwalk_at T c n xs _ HK.out.len h0 hn2 HN.out).mono ?_; rintro _ w1 ⟨A1, c1, m, A2, c2, os, ds, b, rfl, hM, hs1, hs2, hb, hy⟩; obtain rfl : b = true := (by obtain ⟨s, q1, q2, q3⟩ := HK.out.walk; exact hy h0 s q1 q2 q3); have HM := Lib.hid hM; clear hM hs1 hs2 hb hy)
  go_loopw [29] (fun i wr => ∃ k : Nat, k ≤ n ∧ i = .int .i64 k ∧ Hid (Mod (fun _ => False) w wr)) (fun i _ => n - (intOf i).toNat)
  case atStart => exact ⟨0, Nat.zero_le _, rfl, HM.out⟩
  case round =>
    obtain ⟨k, hk, rfl, HR⟩ := hrel
    by_cases hlt : k < n
    · have hk2 : k < xs.length := by rw [← HK.out.len]; exact hlt
      have ex : xs[k]? = some xs[k] := List.getElem?_eq_getElem hk2
      obtain ⟨b, o, e, hc⟩ := (HN.out.mod HR.out).2.1 (by omega)
      have hx := hc k _ ex
      have hnode := HK.out.node k _ ex
      generalize xs[k] = x at hx ex hnode
      obtain ⟨⟨A, np, c', ys⟩, pl, cl, fu, ⟨A5, n5, c5, y5⟩, ⟨A6, n6, c6, y6⟩⟩ := x
      obtain ⟨c0, c1', c2', c3, c4, c5'⟩ := hx
      simp only [Pt.v] at c0 c4 c5'
      obtain ⟨hnp, d, hpl, hd, _⟩ := hnode
      have hnp : np = dims := hnp
      have hpl : pl = (d : Int) := hpl
      subst hnp hpl e
      clear hc hk2 ex
      have i0' : (0 : Int) ≤ k := by omega
      have i1' : (k : Int) < n := by omega
      have d1 : ((d : Int) < 0) = False := by simp
      go_wp2_with fail
      go_roundw
      case rel => exact ⟨k + 1, by omega, by go_num, HR.out.alloc _⟩
      case measure => simp [intOf]; omega
    · obtain rfl : k = n := by omega
      go_wp2_with fail
      go_loopw [52] (fun i w2 => ∃ k2 : Nat, k2 ≤ k ∧ i = .int .i64 k2 ∧ Hid (Mod (fun _ => False) w w2)) (fun i _ => k - (intOf i).toNat)
      case atStart => exact ⟨0, Nat.zero_le _, rfl, HR.out⟩
      case round =>
        clear HR
        obtain ⟨j, hj, rfl, HR⟩ := hrel
        by_cases hlt : j < k
        · have hk2 : j < xs.length := by rw [← HK.out.len]; exact hlt
          have ex : xs[j]? = some xs[j] := List.getElem?_eq_getElem hk2
          have hKN := HN.out.mod HR.out
          obtain ⟨b, o, e, hc⟩ := hKN.2.1 (by omega)
          have hx := hc j _ ex
          have hOk := (hKN.2.2 _ (List.getElem_mem hk2)).1
          have hnode := HK.out.node j _ ex
          generalize xs[j] = x at hx ex hnode hOk
          obtain ⟨⟨A, np, c', ys⟩, pl, cl, fu, ⟨A5, n5, c5, y5⟩, ⟨A6, n6, c6, y6⟩⟩ := x
          obtain ⟨c0, c1', c2', c3, c4, c5'⟩ := hx
          simp only [Pt.v] at c0 c4 c5'
          obtain ⟨hnp, d, hpl, hd, l, r, hl, hr, hll, hrl, hpl1, hpr1⟩ := hnode
          have hnp : np = dims := hnp
          have hpl : pl = (d : Int) := hpl
          subst hnp hpl
          obtain ⟨b2, o2, e2, cx⟩ := hOk.cell (k := d) hd
          replace e2 : A = some ⟨b2, o2, none⟩ := e2
          replace cx : wr.cell? ⟨b2, o2 + d, none⟩ = some (.float .f64 (ys.getD d 0)) := cx
          have HX : Hid (l.At (KC xs) (KF xs) k cl j ∧ r.At (KC xs) (KF xs) k fu j ∧ l.ord.length ≤ 2147483647 ∧ r.ord.length ≤ 2147483647 ∧ (∀ i ∈ l.ord, ∃ y, xs[i]? = some y ∧ LeW (y.p.xs.getD d 0) (ys.getD d 0)) ∧ (∀ i ∈ r.ord, ∃ y, xs[i]? = some y ∧ GtW (y.p.xs.getD d 0) (ys.getD d 0))) := ⟨hl, hr, hll, hrl, hpl1, hpr1⟩
          subst e e2
          clear hc hk2 ex hKN hOk hl hr hll hrl hpl1 hpr1
          generalize ys.getD d 0 = X at cx HX
          have i0' : (0 : Int) ≤ j := by omega
          have i1' : (j : Int) < k := by omega
          have d0 : (0 : Int) ≤ d := by omega
          have d1 : (d : Int) < np := by omega
          have hcx := lt_of_cell cx
          have HCX : Hid (∀ w1 : World, Mod (fun _ => False) wr w1 → w1.cell? ⟨b2, o2 + d, none⟩ = some (.float .f64 X)) := fun w1 hm => (hm.cell hcx (fun h => h)).trans cx
          have NB : Hid (Blk (wr.alloc (Obj.cells #[.slice (some ⟨b2, o2, none⟩) np c', .int .i64 d, .int .i64 cl, .int .i64 fu, .slice A5 n5 c5, .slice A6 n6 c6] 39)) wr.heap.size 39 [.slice (some ⟨b2, o2, none⟩) np c', .int .i64 d, .int .i64 cl, .int .i64 fu, .slice A5 n5 c5, .slice A6 n6 c6]) := Blk.new' wr _ _
          go_wp2_with (go_at_call 36; refine (below_at _ c k xs HK.out.len hn2 l cl j _ HX.out.1 (by omega) HX.out.2.2.1 (HN.out.mod (HR.out.alloc _))).mono ?_; rintro _ w5 ⟨v5, rfl, ho5, hm5⟩; obtain ⟨A7, c7, rfl, hc7, hs7⟩ := own_form ho5; obtain ⟨L7, eL7⟩ : ∃ L7, L7 = l.ord.length := ⟨_, rfl⟩; rw [← eL7] at hs7 ⊢; have H5 := Lib.hid (And.intro hs7 (And.intro hm5 (And.intro eL7 hc7))); have hL7 : L7 ≤ 2147483647 := (by have := HX.out.2.2.1; omega); clear ho5 hm5 hs7 eL7 hc7)
          go_loopw [67] (fun i w3 => ∃ k3 : Nat, k3 ≤ L7 ∧ i = .int .i64 k3 ∧ Hid (Mod (fun _ => False) w5 w3)) (fun i _ => L7 - (intOf i).toNat)
          case atStart => exact ⟨0, Nat.zero_le _, rfl, Mod.refl _ _⟩
          case round =>
            obtain ⟨k3, hk3, rfl, HR3⟩ := hrel
            have nbw := (NB.out.mod H5.out.2.1 (fun h => h)).mod HR3.out (fun h => h)
            have nb1 := nbw.at (i := 1) rfl
            have nb3 := nbw.at (i := 3) rfl
            have hMw := ((HR.out.alloc (Obj.cells #[.slice (some ⟨b2, o2, none⟩) np c', .int .i64 d, .int .i64 cl, .int .i64 fu, .slice A5 n5 c5, .slice A6 n6 c6] 39)).trans H5.out.2.1).trans HR3.out
            have HMW := Lib.hid hMw
            clear nbw hMw c0 c1' c2' c3 c4 c5' cx
            by_cases hlt3 : k3 < L7
            · obtain ⟨b7, o7, b8, o8, c8, Y, e7, p1, p2, hle⟩ := row_pt (P := fun y => LeW y X) HK.out (HN.out.mod HMW.out) (H5.out.1.mod HR3.out) hlt3 hd HX.out.2.2.2.2.1
              subst e7
              have hlook := hle.look
              clear hle
              have i3 : (0 : Int) ≤ k3 := by omega
              have i4 : (k3 : Int) < L7 := by omega
              go_wp2_with fail
              go_roundw
              case rel => exact ⟨k3 + 1, by omega, by go_num, HR3.out⟩
              case measure => simp [intOf]; omega
            · obtain rfl : k3 = L7 := by omega
              go_wp2_with (go_at_call 36; refine (below_at _ c k xs HK.out.len hn2 r fu j _ HX.out.2.1 (by omega) HX.out.2.2.2.1 (HN.out.mod HMW.out)).mono ?_; rintro _ w6 ⟨v6, rfl, ho6, hm6⟩; obtain ⟨A9, c9, rfl, hc9, hs9⟩ := own_form ho6; obtain ⟨L9, eL9⟩ : ∃ L9, L9 = r.ord.length := ⟨_, rfl⟩; rw [← eL9] at hs9 ⊢; have H6 := Lib.hid (And.intro hs9 (And.intro hm6 (And.intro eL9 hc9))); have hL9 : L9 ≤ 2147483647 := (by have := HX.out.2.2.2.1; omega); clear ho6 hm6 hs9 eL9 hc9 nb1 nb3)
              go_loopw [85] (fun i w4 => ∃ k4 : Nat, k4 ≤ L9 ∧ i = .int .i64 k4 ∧ Hid (Mod (fun _ => False) w6 w4)) (fun i _ => L9 - (intOf i).toNat)
              case atStart => exact ⟨0, Nat.zero_le _, rfl, Mod.refl _ _⟩
              case round =>
                obtain ⟨k4, hk4, rfl, HR4⟩ := hrel
                have nbw := (((NB.out.mod H5.out.2.1 (fun h => h)).mod HR3.out (fun h => h)).mod H6.out.2.1 (fun h => h)).mod HR4.out (fun h => h)
                have nb1 := nbw.at (i := 1) rfl
                clear nbw
                by_cases hlt4 : k4 < L9
                · obtain ⟨b7, o7, b8, o8, c8, Y, e7, p1, p2, hle⟩ := row_pt (P := fun y => GtW y X) HK.out (HN.out.mod ((HMW.out.trans H6.out.2.1).trans HR4.out)) (H6.out.1.mod HR4.out) hlt4 hd HX.out.2.2.2.2.2
                  subst e7
                  have g1 := hle.look
                  clear hle
                  have i3 : (0 : Int) ≤ k4 := by omega
                  have i4 : (k4 : Int) < L9 := by omega
                  go_wp2_with fail
                  go_roundw
                  case rel => exact ⟨k4 + 1, by omega, by go_num, HR4.out⟩
                  case measure => simp [intOf]; omega
                · obtain rfl : k4 = L9 := by omega
                  go_wp2_with fail
                  go_roundw
                  case rel => exact ⟨j + 1, by omega, by go_num, (HMW.out.trans H6.out.2.1).trans HR4.out⟩
                  case measure => simp [intOf]; omega
        · obtain rfl : j = k := by omega
          go_wp2_with fail
          go_ret
          exact ⟨rfl, HR.out⟩
end Go.Proofs.Ytmeooadgdagiiaa.W

namespace Lox
theorem SH.at_uniq {C F : Nat → Int} {n : Nat} : ∀ (s t : SH) {i a : Int}, -1 ≤ a → s.At C F n i a → t.At C F n i a → s = t := by
  intro s
  induction s with
  | nil =>
    intro t i a ha h1 h2
    cases t with
    | nil => rfl
    | node k l r =>
      obtain ⟨e, h3, -⟩ := h2
      have h1 : i = -1 := h1
      omega
  | node k l r ihl ihr =>
    intro t i a ha h1 h2
    obtain ⟨e, b1, b2, b3, b4⟩ := h1
    cases t with
    | nil => have h2 : i = -1 := h2; omega
    | node k' l' r' =>
      obtain ⟨e', c1, c2, c3, c4⟩ := h2
      obtain rfl : k = k' := by omega
      rw [ihl l' (by omega) b3 c3, ihr r' (by omega) b4 c4]
end Lox
namespace Go.Proofs.Ytmeooadgdagiiaa.W
open Go.RowKit Lox
set_option linter.unusedVariables false
attribute [local go_sem] run_store_flt run_store_fn
attribute [local go_sem ↓] Go.wp_at_zero Go.wp_at_succ

/-- Neither begins the box, along a node's plane, just where the node and a point on its left are, nor ends it where the node and one on its right are. -/
def NotEdge (xs : List KN) (x : KN) (l r : SH) (low high : List Nat) : Prop :=
  (∀ (i j : Nat) (y : KN), l.ord[i]? = some j → xs[j]? = some y → ¬ (zi (low.getD x.pl.toNat 0) = zi (x.p.xs.getD x.pl.toNat 0) ∧ zi (y.p.xs.getD x.pl.toNat 0) = zi (x.p.xs.getD x.pl.toNat 0))) ∧
  (∀ (i j : Nat) (y : KN), r.ord[i]? = some j → xs[j]? = some y → ¬ (zi (high.getD x.pl.toNat 0) = zi (x.p.xs.getD x.pl.toNat 0) ∧ zi (y.p.xs.getD x.pl.toNat 0) = zi (x.p.xs.getD x.pl.toNat 0)))

def NotEdged (xs : List KN) (n : Nat) (low high : List Nat) (m : Nat) : Prop :=
  ∀ (k : Nat) (x : KN) (l r : SH), k < m → xs[k]? = some x → l.At (KC xs) (KF xs) n x.c k → r.At (KC xs) (KF xs) n x.f k → NotEdge xs x l r low high

theorem eq_look {a b : Nat} (ha : ∃ n, Wh a n) (hb : ∃ n, Wh b n) : (FloatKind.f64.format.order a b == some .eq) = decide (zi a = zi b) := (zi_wh ha).1.eq (zi_wh hb).1

/-- A point out of a list of points of the tree, and its number along an axis. -/
theorem row_pt2 {xs : List KN} {n dims : Nat} {T A7 : Option Addr} {W : World} (hK : IsKd xs n dims) (hN : KNodes W T xs) {l : List Nat} {L7 k3 d : Nat} (hs : Sl W A7 L7 1 (l.map (PV xs))) (h : k3 < L7) (hd : d < dims) {P : Nat → Prop} (hl : ∀ i ∈ l, ∃ y, xs[i]? = some y ∧ P (y.p.xs.getD d 0)) :
    ∃ b7 o7 b8 o8 c8 Y, A7 = some ⟨b7, o7, none⟩ ∧ W.cell? ⟨b7, o7 + k3, none⟩ = some (.slice (some ⟨b8, o8, none⟩) dims c8) ∧ W.cell? ⟨b8, o8 + d, none⟩ = some (.float .f64 Y) ∧ P Y ∧ (∀ j y, l[k3]? = some j → xs[j]? = some y → y.p.xs.getD d 0 = Y) := by
  obtain ⟨b7, o7, v, e1, e2, e3⟩ := hs.at1 h
  rw [List.getElem?_map] at e2
  cases hi : l[k3]? with
  | none => rw [hi] at e2; cases e2
  | some i =>
    rw [hi] at e2
    obtain ⟨y, ey, hp⟩ := hl i (List.mem_of_getElem? hi)
    have e2 : PV xs i = v := by simpa using e2
    rw [pv_at ey] at e2
    subst e2
    obtain ⟨hn, _⟩ := hK.node i y ey
    obtain ⟨b8, o8, e8, c8⟩ := ((hN.2.2 y (List.mem_of_getElem? ey)).1).cell (k := d) (by omega)
    exact ⟨b7, o7, b8, o8, y.p.c, _, e1, by rw [e3, Pt.v, e8, hn], c8, hp, fun j y' hj hy' => by cases hj; rw [ey] at hy'; cases hy'; rfl⟩

theorem slf_at {w : World} {A : Option Addr} {n d : Nat} {xs : List Nat} (h : Sl w A n 1 (flts xs)) (hd : d < n) : ∃ b o, A = some ⟨b, o, none⟩ ∧ w.cell? ⟨b, o + d, none⟩ = some (.float .f64 (xs.getD d 0)) := by
  obtain ⟨b, o, v, e1, e2, e3⟩ := h.at1 hd
  have hl : d < xs.length := by have := h.1; simp [flts] at this; omega
  rw [flts_getD hl] at e2
  cases e2
  exact ⟨b, o, e1, e3⟩

theorem edge_step {xs : List KN} {l : List Nat} {k3 d : Nat} {LX X Y : Nat} (h : ∀ i j' y, i < k3 → l[i]? = some j' → xs[j']? = some y → ¬ (zi LX = zi X ∧ zi (y.p.xs.getD d 0) = zi X)) (hy : ∀ j y, l[k3]? = some j → xs[j]? = some y → y.p.xs.getD d 0 = Y) (hn : ¬ (zi LX = zi X ∧ zi Y = zi X)) :
    ∀ i j' y, i < k3 + 1 → l[i]? = some j' → xs[j']? = some y → ¬ (zi LX = zi X ∧ zi (y.p.xs.getD d 0) = zi X) := by
  intro i j' y hi h1 h2
  rcases Nat.lt_or_ge i k3 with h3 | h3
  · exact h i j' y h3 h1 h2
  · obtain rfl : i = k3 := by omega
    rw [hy j' y h1 h2]
    exact hn

theorem edge_next {xs : List KN} {n np j d : Nat} {A A5 A6 : Option Addr} {c' n5 c5 n6 c6 : Nat} {ys y5 y6 low high : List Nat} {cl fu : Int} {l r : SH} {X LX HX2 L7 L9 : Nat} (h : NotEdged xs n low high j) (hx : xs[j]? = some ⟨⟨A, np, c', ys⟩, (d : Int), cl, fu, ⟨A5, n5, c5, y5⟩, ⟨A6, n6, c6, y6⟩⟩)
    (hl : l.At (KC xs) (KF xs) n cl j) (hr : r.At (KC xs) (KF xs) n fu j) (eX : X = ys.getD d 0) (eL : LX = low.getD d 0) (eH : HX2 = high.getD d 0) (e7 : L7 = l.ord.length) (e9 : L9 = r.ord.length)
    (h3 : ∀ i j' y, i < L7 → l.ord[i]? = some j' → xs[j']? = some y → ¬ (zi LX = zi X ∧ zi (y.p.xs.getD d 0) = zi X)) (h4 : ∀ i j' y, i < L9 → r.ord[i]? = some j' → xs[j']? = some y → ¬ (zi HX2 = zi X ∧ zi (y.p.xs.getD d 0) = zi X)) : NotEdged xs n low high (j + 1) := by
  intro k x l' r' hk hx' hl' hr'
  rcases Nat.lt_or_ge k j with hkj | hkj
  · exact h k x l' r' hkj hx' hl' hr'
  · obtain rfl : k = j := by omega
    rw [hx] at hx'
    cases hx'
    obtain rfl := SH.at_uniq l l' (by omega) hl hl'
    obtain rfl := SH.at_uniq r r' (by omega) hr hr'
    subst eX eL eH e7 e9
    exact ⟨fun i j' y h1 h2 => h3 i j' y (List.getElem?_eq_some_iff.1 h1).1 h1 h2, fun i j' y h1 h2 => h4 i j' y (List.getElem?_eq_some_iff.1 h1).1 h1 h2⟩

set_option maxRecDepth 100000 in
set_option maxHeartbeats 8000000 in
theorem edged_at (T A1 A2 : Option Addr) (c n dims k1 k2 : Nat) (low high : List Nat) (xs : List KN) (w : World) (hK : IsKd xs n dims) (h0 : 0 < n) (hn2 : n ≤ 2147483647) (hdm : 0 < dims ∧ dims ≤ 1099511627776) (hN : KNodes w T xs) (h1 : Sl w A1 dims 1 (flts low)) (h2 : Sl w A2 dims 1 (flts high)) (g1 : ∀ x ∈ low, ∃ n, Wh x n) (g2 : ∀ x ∈ high, ∃ n, Wh x n) :
    Calls Try.prog 16 #[.slice T n c, .slice A1 dims k1, .slice A2 dims k2] w fun e w' => (∃ b, e = .returned (.bool b) ∧ (b = false → NotEdged xs n low high n)) ∧ Mod (fun _ => False) w w' := by
  have HK := Lib.hid hK
  have HN := Lib.hid hN
  have hl1 : low.length = dims := by have := h1.1; simpa [flts] using this
  have hl2 : high.length = dims := by have := h2.1; simpa [flts] using this
  obtain ⟨lb, lo', rfl, -⟩ := slf_at h1 (d := 0) (by omega)
  obtain ⟨hb, ho', rfl, -⟩ := slf_at h2 (d := 0) (by omega)
  have HL : Hid (∀ (w1 : World) (d : Nat), Mod (fun _ => False) w w1 → d < dims → w1.cell? ⟨lb, lo' + d, none⟩ = some (.float .f64 (low.getD d 0)) ∧ (∃ n, Wh (low.getD d 0) n)) := fun w1 d hm hd => by
    obtain ⟨b, o, e, hc⟩ := slf_at (h1.mod hm) hd
    cases e
    exact ⟨hc, g1 _ (mem_getD (by omega))⟩
  have HH : Hid (∀ (w1 : World) (d : Nat), Mod (fun _ => False) w w1 → d < dims → w1.cell? ⟨hb, ho' + d, none⟩ = some (.float .f64 (high.getD d 0)) ∧ (∃ n, Wh (high.getD d 0) n)) := fun w1 d hm hd => by
    obtain ⟨b, o, e, hc⟩ := slf_at (h2.mod hm) hd
    cases e
    exact ⟨hc, g2 _ (mem_getD (by omega))⟩
  clear hK hN h1 h2 g1 g2 hl1 hl2
  go_enter Try.func16, Try.ntmps16
  go_wp2_with fail
  go_loopw [16] (fun i w2 => ∃ j : Nat, j ≤ n ∧ i = .int .i64 j ∧ Hid (Mod (fun _ => False) w w2 ∧ NotEdged xs n low high j)) (fun i _ => n - (intOf i).toNat)
  case atStart => exact ⟨0, Nat.zero_le _, rfl, Mod.refl _ _, fun k x l r hk => by omega⟩
  case round =>
    obtain ⟨j, hj, rfl, HR⟩ := hrel
    by_cases hlt : j < n
    · have hk2 : j < xs.length := by rw [← HK.out.len]; exact hlt
      have ex : xs[j]? = some xs[j] := List.getElem?_eq_getElem hk2
      have hKN := HN.out.mod HR.out.1
      obtain ⟨b, o, e, hc⟩ := hKN.2.1 (by omega)
      have hx := hc j _ ex
      have hOk := (hKN.2.2 _ (List.getElem_mem hk2)).1
      have hnode := HK.out.node j _ ex
      generalize xs[j] = x at hx ex hnode hOk
      obtain ⟨⟨A, np, c', ys⟩, pl, cl, fu, ⟨A5, n5, c5, y5⟩, ⟨A6, n6, c6, y6⟩⟩ := x
      have HEX := Lib.hid ex
      obtain ⟨c0, c1', c2', c3, c4, c5'⟩ := hx
      simp only [Pt.v] at c0 c4 c5'
      obtain ⟨hnp, d, hpl, hd, l, r, hl, hr, hll, hrl, hpl1, hpr1⟩ := hnode
      have hnp : np = dims := hnp
      have hpl : pl = (d : Int) := hpl
      subst hnp hpl
      obtain ⟨b2, o2, e2, cx⟩ := hOk.cell (k := d) hd
      replace e2 : A = some ⟨b2, o2, none⟩ := e2
      replace cx : wr.cell? ⟨b2, o2 + d, none⟩ = some (.float .f64 (ys.getD d 0)) := cx
      have HX : Hid (l.At (KC xs) (KF xs) n cl j ∧ r.At (KC xs) (KF xs) n fu j ∧ l.ord.length ≤ 2147483647 ∧ r.ord.length ≤ 2147483647 ∧ (∀ i ∈ l.ord, ∃ y, xs[i]? = some y ∧ LeW (y.p.xs.getD d 0) (ys.getD d 0)) ∧ (∀ i ∈ r.ord, ∃ y, xs[i]? = some y ∧ GtW (y.p.xs.getD d 0) (ys.getD d 0))) := ⟨hl, hr, hll, hrl, hpl1, hpr1⟩
      subst e e2
      clear hc hk2 ex hKN hOk hl hr hll hrl hpl1 hpr1
      obtain ⟨X, eX⟩ : ∃ X, X = ys.getD d 0 := ⟨_, rfl⟩
      rw [← eX] at cx HX
      have HEQ := Lib.hid eX
      clear eX
      obtain ⟨lc, lw⟩ := HL.out wr d HR.out.1 hd
      obtain ⟨LX, eLX⟩ : ∃ LX, LX = low.getD d 0 := ⟨_, rfl⟩
      rw [← eLX] at lc lw
      have HLX := Lib.hid (And.intro eLX lw)
      obtain ⟨hc1, hw1⟩ := HH.out wr d HR.out.1 hd
      obtain ⟨HX2, eHX⟩ : ∃ HX2, HX2 = high.getD d 0 := ⟨_, rfl⟩
      rw [← eHX] at hc1 hw1
      have HHX := Lib.hid (And.intro eHX hw1)
      clear eLX lw eHX hw1
      have i0' : (0 : Int) ≤ j := by omega
      have i1' : (j : Int) < n := by omega
      have d0 : (0 : Int) ≤ d := by omega
      have d1 : (d : Int) < np := by omega
      have hcx := lt_of_cell cx
      have hcl := lt_of_cell lc
      have hch := lt_of_cell hc1
      have HCX : Hid (∀ w1 : World, Mod (fun _ => False) wr w1 → w1.cell? ⟨b2, o2 + d, none⟩ = some (.float .f64 X) ∧ w1.cell? ⟨lb, lo' + d, none⟩ = some (.float .f64 LX) ∧ w1.cell? ⟨hb, ho' + d, none⟩ = some (.float .f64 HX2)) := fun w1 hm => ⟨(hm.cell hcx (fun h => h)).trans cx, (hm.cell hcl (fun h => h)).trans lc, (hm.cell hch (fun h => h)).trans hc1⟩
      have NB : Hid (Blk (wr.alloc (Obj.cells #[.slice (some ⟨b2, o2, none⟩) np c', .int .i64 d, .int .i64 cl, .int .i64 fu, .slice A5 n5 c5, .slice A6 n6 c6] 39)) wr.heap.size 39 [.slice (some ⟨b2, o2, none⟩) np c', .int .i64 d, .int .i64 cl, .int .i64 fu, .slice A5 n5 c5, .slice A6 n6 c6]) := Blk.new' wr _ _
      clear lc hc1
      go_wp2_with (go_at_call 36; refine (below_at _ c n xs HK.out.len hn2 l cl j _ HX.out.1 (by omega) HX.out.2.2.1 (HN.out.mod (HR.out.1.alloc _))).mono ?_; rintro _ w5 ⟨v5, rfl, ho5, hm5⟩; obtain ⟨A7, c7, rfl, hc7, hs7⟩ := own_form ho5; obtain ⟨L7, eL7⟩ : ∃ L7, L7 = l.ord.length := ⟨_, rfl⟩; rw [← eL7] at hs7 ⊢; have H5 := Lib.hid (And.intro hs7 (And.intro hm5 (And.intro eL7 hc7))); have hL7 : L7 ≤ 2147483647 := (by have := HX.out.2.2.1; omega); clear ho5 hm5 hs7 eL7 hc7)
      have MOD0 := Lib.hid (((Mod.refl (fun _ => False) wr).alloc (Obj.cells #[.slice (some ⟨b2, o2, none⟩) np c', .int .i64 d, .int .i64 cl, .int .i64 fu, .slice A5 n5 c5, .slice A6 n6 c6] 39)).trans H5.out.2.1)
      go_loopw [31] (fun i w3 => ∃ k3 : Nat, k3 ≤ L7 ∧ i = .int .i64 k3 ∧ Hid (Mod (fun _ => False) w5 w3 ∧ ∀ i j' y, i < k3 → l.ord[i]? = some j' → xs[j']? = some y → ¬ (zi LX = zi X ∧ zi (y.p.xs.getD d 0) = zi X))) (fun i _ => L7 - (intOf i).toNat)
      case atStart => exact ⟨0, Nat.zero_le _, rfl, Mod.refl _ _, fun i j' y hi => by omega⟩
      case round =>
        obtain ⟨k3, hk3, rfl, HR3⟩ := hrel
        have nbw := (NB.out.mod H5.out.2.1 (fun h => h)).mod HR3.out.1 (fun h => h)
        have nb1 := nbw.at (i := 1) rfl
        have nb3 := nbw.at (i := 3) rfl
        have hMr := MOD0.out.trans HR3.out.1
        have HMW := Lib.hid hMr
        clear nbw hMr c0 c1' c2' c3 c4 c5' cx
        by_cases hlt3 : k3 < L7
        · obtain ⟨b7, o7, b8, o8, c8, Y, e7, p1, p2, hle, hyy⟩ := row_pt2 (P := fun y => LeW y X) HK.out (HN.out.mod (HR.out.1.trans HMW.out)) (H5.out.1.mod HR3.out.1) hlt3 hd HX.out.2.2.2.2.1
          subst e7
          obtain ⟨m1, m2, wY, wX, -⟩ := hle
          have f1 := eq_look HLX.out.2 ⟨_, wX⟩
          have f2 := eq_look ⟨_, wY⟩ ⟨_, wX⟩
          have HY := Lib.hid hyy
          clear hyy wY wX
          have lc := (HCX.out _ HMW.out).2.1
          have i3 : (0 : Int) ≤ k3 := by omega
          have i4 : (k3 : Int) < L7 := by omega
          have HF : Hid (zi LX = zi X ∧ zi Y = zi X ∨ ¬ (zi LX = zi X ∧ zi Y = zi X)) := Decidable.em _
          by_cases q1 : zi LX = zi X
          · rw [decide_eq_true q1] at f1
            by_cases q2 : zi Y = zi X
            · rw [decide_eq_true q2] at f2
              go_wp2_with fail
              go_ret
              exact ⟨⟨true, rfl, fun h => by cases h⟩, HR.out.1.trans HMW.out⟩
            · rw [decide_eq_false q2] at f2
              have HQ := Lib.hid q2
              go_wp2_with fail
              go_roundw
              case rel => exact ⟨k3 + 1, by omega, by go_num, HR3.out.1, edge_step HR3.out.2 HY.out (fun h => HQ.out h.2)⟩
              case measure => simp [intOf]; omega
          · rw [decide_eq_false q1] at f1
            have HQ := Lib.hid q1
            go_wp2_with fail
            go_roundw
            case rel => exact ⟨k3 + 1, by omega, by go_num, HR3.out.1, edge_step HR3.out.2 HY.out (fun h => HQ.out h.1)⟩
            case measure => simp [intOf]; omega
        · obtain rfl : k3 = L7 := by omega
          go_wp2_with (go_at_call 36; refine (below_at _ c n xs HK.out.len hn2 r fu j _ HX.out.2.1 (by omega) HX.out.2.2.2.1 (HN.out.mod (HR.out.1.trans HMW.out))).mono ?_; rintro _ w6 ⟨v6, rfl, ho6, hm6⟩; obtain ⟨A9, c9, rfl, hc9, hs9⟩ := own_form ho6; obtain ⟨L9, eL9⟩ : ∃ L9, L9 = r.ord.length := ⟨_, rfl⟩; rw [← eL9] at hs9 ⊢; have H6 := Lib.hid (And.intro hs9 (And.intro hm6 (And.intro eL9 hc9))); have hL9 : L9 ≤ 2147483647 := (by have := HX.out.2.2.2.1; omega); clear ho6 hm6 hs9 eL9 hc9 nb1 nb3)
          go_loopw [57] (fun i w4 => ∃ k4 : Nat, k4 ≤ L9 ∧ i = .int .i64 k4 ∧ Hid (Mod (fun _ => False) w6 w4 ∧ ∀ i j' y, i < k4 → r.ord[i]? = some j' → xs[j']? = some y → ¬ (zi HX2 = zi X ∧ zi (y.p.xs.getD d 0) = zi X))) (fun i _ => L9 - (intOf i).toNat)
          case atStart => exact ⟨0, Nat.zero_le _, rfl, Mod.refl _ _, fun i j' y hi => by omega⟩
          case round =>
            obtain ⟨k4, hk4, rfl, HR4⟩ := hrel
            have nbw := (((NB.out.mod H5.out.2.1 (fun h => h)).mod HR3.out.1 (fun h => h)).mod H6.out.2.1 (fun h => h)).mod HR4.out.1 (fun h => h)
            have nb1 := nbw.at (i := 1) rfl
            have HMV := Lib.hid ((HMW.out.trans H6.out.2.1).trans HR4.out.1)
            clear nbw
            by_cases hlt4 : k4 < L9
            · obtain ⟨b7, o7, b8, o8, c8, Y, e7, p1, p2, hle, hyy⟩ := row_pt2 (P := fun y => GtW y X) HK.out (HN.out.mod (HR.out.1.trans HMV.out)) (H6.out.1.mod HR4.out.1) hlt4 hd HX.out.2.2.2.2.2
              subst e7
              obtain ⟨m1, m2, wY, wX, -⟩ := hle
              have f1 := eq_look HHX.out.2 ⟨_, wX⟩
              have f2 := eq_look ⟨_, wY⟩ ⟨_, wX⟩
              have HY := Lib.hid hyy
              clear hyy wY wX
              have lc := (HCX.out _ HMV.out).2.2
              have i3 : (0 : Int) ≤ k4 := by omega
              have i4 : (k4 : Int) < L9 := by omega
              by_cases q1 : zi HX2 = zi X
              · rw [decide_eq_true q1] at f1
                by_cases q2 : zi Y = zi X
                · rw [decide_eq_true q2] at f2
                  go_wp2_with fail
                  go_ret
                  exact ⟨⟨true, rfl, fun h => by cases h⟩, HR.out.1.trans HMV.out⟩
                · rw [decide_eq_false q2] at f2
                  have HQ := Lib.hid q2
                  go_wp2_with fail
                  go_roundw
                  case rel => exact ⟨k4 + 1, by omega, by go_num, HR4.out.1, edge_step HR4.out.2 HY.out (fun h => HQ.out h.2)⟩
                  case measure => simp [intOf]; omega
              · rw [decide_eq_false q1] at f1
                have HQ := Lib.hid q1
                go_wp2_with fail
                go_roundw
                case rel => exact ⟨k4 + 1, by omega, by go_num, HR4.out.1, edge_step HR4.out.2 HY.out (fun h => HQ.out h.1)⟩
                case measure => simp [intOf]; omega
            · obtain rfl : k4 = L9 := by omega
              go_wp2_with fail
              go_roundw
              case rel => exact ⟨j + 1, by omega, by go_num, HR.out.1.trans HMV.out, edge_next HR.out.2 HEX.out HX.out.1 HX.out.2.1 HEQ.out HLX.out.1 HHX.out.1 H5.out.2.2.1 H6.out.2.2.1 HR3.out.2 HR4.out.2⟩
              case measure => simp [intOf]; omega
    · obtain rfl : j = n := by omega
      go_wp2_with fail
      go_ret
      exact ⟨⟨false, rfl, fun _ => HR.out.2⟩, HR.out.1⟩
end Go.Proofs.Ytmeooadgdagiiaa.W
