/- Steps of a proof, one behind another: A keeper as the search asks for it; the walk of Tree.NearestSet (printed by wip/gen_nset.py). A keeper within a distance as the search asks for it; the walk of Tree.NearestSet (printed by wip/gen_nset.py). Conditions: as each theorem says. -/
import Derived.Test.YtmeooadgdagiiaaMs13

namespace Go.Proofs.Ytmeooadgdagiiaa.K
open Go.RowKit Lox Go.Sort
set_option linter.unusedVariables false
attribute [local go_sem] run_store_flt run_store_fn

/-- The state of a keeper of the n nearest. -/
def StK (q : TP) (dims cap kb hb : Nat) (w : World) (ps : List TP) : Prop := ∃ L, KKS w kb hb L.length cap L ∧ KeptP q dims cap L ps

theorem kpr_k {q : TP} {dims cap kb hb : Nat} (hq : GoodE dims q) (hd : dims ≤ 4) (h0 : 0 < cap) (hl : cap ≤ 1099511627776) :
    Kpr 101 (.pointer (some ⟨kb, 0, none⟩)) 136 139 q dims (fun k => k = hb ∨ k = kb) (StK q dims cap kb hb) where
  findK := fun w => kmeth_keep8 _ w
  findM := fun w => kmeth_max8 _ w
  ahead := fun w => kahead_keep _ w
  enterK := enters_of Try.func136 (by kernel_rfl) rfl
  enterM := enters_of Try.func139 (by kernel_rfl) rfl
  mod0 := fun w w' ps ⟨L, h1, h2⟩ hm => ⟨L, h1.mod hm (fun h => h) (fun h => h), h2⟩
  keep := fun w ps p r ⟨L, h1, h2⟩ hn hr => by
    have hpos : 0 < L.length := by obtain ⟨ts, _, _, h3⟩ := h2; exact h3.pos h0
    exact (kkeep_at w kb hb L.length cap r p.v L h1 hpos hl hr.1.1).mono fun e w' ⟨he, hk, hm⟩ => ⟨he, ⟨_, hk, h2.keep h0 hr⟩, hm⟩
  max := fun w ps ⟨L, h1, h2⟩ => by
    have hpos : 0 < L.length := by obtain ⟨ts, _, _, h3⟩ := h2; exact h3.pos h0
    have hb := h1.bds
    refine (kmax_at w kb _ L.length cap L h1 hpos).mono ?_
    rintro e w' ⟨⟨v, b, he, hx⟩, hm⟩
    have h1' := h1.mod hm (fun h => h) (fun h => h)
    refine ⟨v, b, he, ⟨L, h1', h2⟩, hm, fun cc c es hc hg hes => ⟨L, h1', ?_⟩⟩
    cases ht : at' L 0 with
    | none =>
      rw [ht] at hx
      obtain ⟨_, rfl⟩ := hx
      rw [order_inf hc.1.1] at hg
      exact absurd hg (by decide)
    | some m =>
      rw [ht] at hx
      obtain ⟨rfl, hf, _⟩ := hx
      rw [ord_le hc.1.1 hf] at hg
      have := of_decide_eq_false hg
      exact h2.skip hq hd h0 ht hc (by omega) hes

/-- sort.Reverse. -/
theorem rev_at (T : TypeId) (v : Value) (w : World) : Calls Try.prog 73 #[.iface T v] w fun e w' => e = .returned (.iface 166 (.pointer (some ⟨w.heap.size, 0, none⟩))) ∧ w' = w.alloc (.cells #[.iface T v] 168) := by
  go_enter Try.func73, Try.ntmps73
  go_wp2
  go_ret
  exact ⟨rfl, rfl⟩

/-- What NearestSet tells of a keeper of the n nearest. -/
def NsTold (cap' : Nat) (q : TP) (dims kb hb cap : Nat) (mt : MT) (w : World) (e : Ending) (w' : World) : Prop :=
  e = .returned (.tuple #[]) ∧ ∃ ts rest, Res q dims ts rest mt.pts ∧ ts.length = min cap mt.pts.length ∧ KKS w' kb hb ts.length cap (elsX ts) ∧ Mod (fun k => k = hb ∨ k = kb) w w'

theorem Res.perm' {q : TP} {dims : Nat} {ts rest : List XT} {ps ps' : List TP} (h : Res q dims ts rest ps) (hp : ps.Perm ps') : Res q dims ts rest ps' := ⟨h.isp, h.perm.trans hp, h.up, h.far⟩
theorem elsX_length (ts : List XT) : (elsX ts).length = ts.length := by simp [elsX]

set_option maxRecDepth 100000 in
set_option maxHeartbeats 4000000 in
/-- Tree.NearestSet, over a keeper that has just been made. -/
theorem nset_at (dims tb kb hb cap : Nat) (n : Int) (v : Option Addr) (hdm : 0 < dims ∧ dims ≤ 4) (q : TP) (hqg : q.Gr) (hqx : q.xs.length = dims) (mt : MT) (h0 : mt ≠ .nil) (w : World) (ht : Blk w tb 79 [.pointer v, .int .i64 n]) (hI : mt.In w (.pointer v)) (hq : q.Ok w dims) (hP : PtsOk (fun k => k = hb ∨ k = kb) w dims mt.pts) (hqf : Far (fun k => k = hb ∨ k = kb) q) (hG : ∀ k ∈ mt.gs, ¬ (fun k => k = hb ∨ k = kb) k)
    (hO : mt.T.Ord leB) (hE : mt.T.Each (fun _ d => d < dims)) (hK : KKS w kb hb 1 cap [none]) (hN : mt.pts.length ≤ 60000) (hcap : 0 < cap) (hcl : cap ≤ 1099511627776) :
    Calls Try.prog 56 #[.pointer (some ⟨tb, 0, none⟩), KP kb, .iface 73 (.slice q.A dims q.c)] w (NsTold cap q dims kb hb cap mt w) := by
  have hne : ∃ vv, v = some vv := by
    cases mt with
    | nil => exact absurd rfl h0
    | node g p d bx l r => obtain ⟨hv, _⟩ := hI; cases hv; exact ⟨_, rfl⟩
  obtain ⟨vv, rfl⟩ := hne
  have c0 : w.cell? ⟨tb, 0, none⟩ = some (.pointer (some vv)) := ht.at (i := 0) rfl
  have SRC : Hid (Calls Try.prog 71 #[.pointer (some vv), .iface 73 (.slice q.A dims q.c), KP kb] w (SsTold (fun k => k = hb ∨ k = kb) (StK q dims cap kb hb) [] mt w)) :=
    sset_at (kpr_k (cap := cap) (kb := kb) (hb := hb) ⟨hqg, hqx⟩ hdm.2 hcap hcl) hdm hqg hqf mt w _ [] hI hG hq hP hO hE (⟨[none], hK, KeptP.start hcap⟩) (by simp; omega)
  have m1 := kmeth_len8
  have m2 := kmeth_max8
  have m3 := kmeth_pop8
  have m5 := run_cmp
  have HW := Lib.hid (And.intro hP hN)
  clear ht hI hq hP hG hO hE hK hN h0
  go_enter Try.func56, Try.ntmps56
  go_upto_region 2 with (go_at_call 71; refine SRC.out.mono ?_; rintro _ w1 ⟨rfl, ps', hp', hst, hm1⟩; have HST := Lib.hid (And.intro hp' (And.intro hst hm1)); clear hp' hst hm1)
  obtain ⟨L, hkL, hkp⟩ := HST.out.2.1
  rw [List.nil_append] at hkp
  have HL := Lib.hid (And.intro hkL (And.intro hkp.one (And.intro hkp HST.out.2.2)))
  clear hkL hkp
  have hlen := HL.out.1.bds
  have hL0 : 0 < L.length := by obtain ⟨ts, _, _, h3⟩ := HL.out.2.2.1; exact h3.pos hcap
  have hLn : L.length < 65536 := by have h1 := HW.out.2; have h2 := HST.out.1.length_eq; obtain ⟨ts, _, h4, h3⟩ := HL.out.2.2.1; have h5 := h3.length; have h6 := congrArg List.length h4; rw [List.length_map] at h5 h6; omega
  have hL0' : ((L.length : Int) != 0) = true := bne_iff_ne.2 (by omega)
  have LEN : Hid (∀ w2 : World, Mod (fun _ => False) w1 w2 → Calls Try.prog 137 #[.pointer (some ⟨kb, 0, none⟩)] w2 fun e w' => e = .returned (.int .i64 L.length) ∧ w' = w2) := fun w2 hm => (klen_at w2 kb hb L.length cap L (HL.out.1.mod hm (fun h => h) (fun h => h))).mono fun e w' ⟨h1, h2⟩ => ⟨h1, h2.symm⟩
  have MAX : Hid (∀ w2 : World, Mod (fun _ => False) w1 w2 → Calls Try.prog 139 #[.pointer (some ⟨kb, 0, none⟩)] w2 fun e w' => (∃ v b, e = .returned (.agg #[v, .float .f64 b]) ∧ ElAt 73 v b (at' L 0)) ∧ Mod (fun _ => False) w1 w') := fun w2 hm => (kmax_at w2 kb hb L.length cap L (HL.out.1.mod hm (fun h => h) (fun h => h)) hL0).mono fun e w' ⟨h1, h2⟩ => ⟨h1, hm.trans h2⟩
  have SRT : Hid (∀ w2 : World, Mod (fun _ => False) w1 w2 → Calls Try.prog 72 #[.iface 166 (.pointer (some ⟨w2.heap.size, 0, none⟩))] (w2.alloc (.cells #[KP kb] 168)) fun e w' => e = .returned (.tuple #[]) ∧ ∃ els', Hid (els'.Perm L ∧ UpE els' ∧ KKS w' kb hb L.length cap els' ∧ Mod (fun k => k = hb ∨ k = kb) w w')) := by
    intro w2 hm
    have hm3 := hm.alloc (.cells #[KP kb] 168)
    have hk := HL.out.1.mod hm3 (fun h => h) (fun h => h)
    refine (ksort_at w2.heap.size kb hb L.length cap L _ hk (Blk.new' w2 #[KP kb] 168) HL.out.2.1 hLn (by have := hm.size; omega)).mono ?_
    rintro e w' ⟨rfl, els', h1, h2, h3, h4⟩
    exact ⟨rfl, els', h1, h2, h3, (HL.out.2.2.2.trans (none_S hm3)).trans ⟨h4.os, h4.tape, h4.output, h4.size, fun k hk hn => h4.block k hk (fun e => hn (by rw [e]; exact .inl rfl))⟩⟩
  have REV : Hid (∀ w2 : World, Calls Try.prog 73 #[KP kb] w2 fun e w' => e = .returned (.iface 166 (.pointer (some ⟨w2.heap.size, 0, none⟩))) ∧ w' = w2.alloc (.cells #[KP kb] 168)) := fun w2 => rev_at 101 (.pointer (some ⟨kb, 0, none⟩)) w2
  cases htop : at' L 0 with
  | none =>
    have HT := Lib.hid htop
    clear htop
    go_upto_if 31 with (first
      | (go_at_call 137; refine (LEN.out _ (by first | exact Mod.refl _ _)).mono ?_; rintro _ _ ⟨rfl, rfl⟩)
      | (go_at_call 139; refine (MAX.out _ (by first | exact Mod.refl _ _)).mono ?_; rintro _ w2 ⟨⟨v5, b5, rfl, he5⟩, hm2⟩; rw [HT.out] at he5; obtain ⟨rfl, rfl⟩ := he5; have HM2 := Lib.hid hm2; clear hm2)
      | (go_at_call 73; refine (REV.out _).mono ?_; rintro _ _ ⟨rfl, rfl⟩)
      | (go_at_call 72; refine (SRT.out _ HM2.out).mono ?_; rintro _ w3 ⟨rfl, els', H3⟩))
    go_wp2_with (go_at_call 140; refine (kpopm_at _ kb hb L.length cap els' H3.out.2.2.1 hL0 (by omega)).mono ?_; rintro _ w4 ⟨⟨vp, rfl⟩, hk4, hm4⟩; have H4 := Lib.hid (And.intro hk4 hm4); clear hk4 hm4)
    go_end0
    obtain ⟨ts, rest, hres, hl, hel⟩ := HL.out.2.2.1.fin hcap H3.out.1 H3.out.2.1
    have hp := HST.out.1
    rcases hel with ⟨_, hel⟩ | ⟨hn, _⟩
    · have hll : L.length = ts.length + 1 := by have := H3.out.1.length_eq; rw [hel, List.length_append, elsX_length] at this; simpa using this.symm
      refine ⟨rfl, ts, rest, hres.perm' hp, by rw [hl, hp.length_eq], ?_, ?_⟩
      · have := H4.out.1
        rw [hel, hll, Nat.add_sub_cancel, List.take_left' (elsX_length ts)] at this
        exact this
      · exact H3.out.2.2.2.trans ⟨H4.out.2.os, H4.out.2.tape, H4.out.2.output, H4.out.2.size, fun k hk hn => H4.out.2.block k hk (fun e => hn (.inr e))⟩
    · exact absurd HT.out hn
  | some m =>
    have HT := Lib.hid htop
    clear htop
    have heq : ∀ (A : Value) (w : World), (binOp .eql 92 (.iface 73 A) .nilIface).run Try.prog w = .ok (.bool false) w := fun _ _ => by kernel_rfl
    go_upto_if 31 with (first
      | (go_at_call 137; refine (LEN.out _ (by first | exact Mod.refl _ _)).mono ?_; rintro _ _ ⟨rfl, rfl⟩)
      | (go_at_call 139; refine (MAX.out _ (by first | exact Mod.refl _ _)).mono ?_; rintro _ w2 ⟨⟨v5, b5, rfl, he5⟩, hm2⟩; rw [HT.out] at he5; obtain ⟨_, _, rfl⟩ := he5; have HM2 := Lib.hid hm2; clear hm2)
      | (go_at_call 73; refine (REV.out _).mono ?_; rintro _ _ ⟨rfl, rfl⟩)
      | (go_at_call 72; refine (SRT.out _ HM2.out).mono ?_; rintro _ w3 ⟨rfl, els', H3⟩))
    go_wp2_with fail
    go_end0
    obtain ⟨ts, rest, hres, hl, hel⟩ := HL.out.2.2.1.fin hcap H3.out.1 H3.out.2.1
    have hp := HST.out.1
    rcases hel with ⟨hn, _⟩ | ⟨_, hel⟩
    · rw [HT.out] at hn; cases hn
    · have hll : L.length = ts.length := by have := H3.out.1.length_eq; rw [hel, elsX_length] at this; exact this.symm
      refine ⟨rfl, ts, rest, hres.perm' hp, by rw [hl, hp.length_eq], ?_, H3.out.2.2.2⟩
      have := H3.out.2.2.1
      rw [hel, hll] at this
      exact this
end Go.Proofs.Ytmeooadgdagiiaa.K

namespace Go.Proofs.Ytmeooadgdagiiaa.K.D
open Go.RowKit Lox Go.Sort
set_option linter.unusedVariables false
attribute [local go_sem] run_store_flt run_store_fn

/-- The state of a keeper within a distance. -/
def StD (q : TP) (dims S kb hb H : Nat) (w : World) (ps : List TP) : Prop := ∃ L hb' cap', DKS S w kb hb' L.length cap' L ∧ cap' ≤ maxLen ∧ (hb' = hb ∨ H ≤ hb') ∧ H ≤ w.heap.size ∧ InP q dims S L ps

theorem in_len {q : TP} {dims S : Nat} {L : List El} {ps : List TP} (h : InP q dims S L ps) : 0 < L.length ∧ L.length ≤ ps.length + 1 ∧ at' L 0 = none := by
  obtain ⟨ts, _, h2, h3⟩ := h
  have h4 := h3.length
  have h5 := congrArg List.length h2
  rw [List.length_map] at h4 h5
  exact ⟨h4.1, by omega, h3.top⟩

theorem kpr_d {q : TP} {dims S kb hb H : Nat} (hq : GoodE dims q) (hd : dims ≤ 4) (hS : Lox.Fin S) :
    Kpr 109 (.pointer (some ⟨kb, 0, none⟩)) 146 139 q dims (fun k => k = hb ∨ k = kb ∨ H ≤ k) (StD q dims S kb hb H) where
  findK := fun w => kmeth_keep8 _ w
  findM := fun w => kmeth_max8 _ w
  ahead := fun w => kahead_keep _ w
  enterK := enters_of Try.func146 (by kernel_rfl) rfl
  enterM := enters_of Try.func139 (by kernel_rfl) rfl
  mod0 := fun w w' ps ⟨L, hb', cap', h1, h2, h3, h4, h5⟩ hm => ⟨L, hb', cap', h1.mod hm (fun h => h) (fun h => h), h2, h3, Nat.le_trans h4 hm.size, h5⟩
  keep := fun w ps p r ⟨L, hb', cap', h1, h2, h3, h4, h5⟩ hn hr => by
    have hl := in_len h5
    refine (kkeep_at w kb hb' L.length cap' r p.v L h1 hl.1 h2 (by omega) hr.1.1 hS hl.2.2).mono ?_
    rintro e w' ⟨hb'', cap'', he, hk, hc, hh, hm⟩
    refine ⟨he, ⟨_, hb'', cap'', hk, hc, ?_, Nat.le_trans h4 hm.size, h5.keep hr⟩, hm.os, hm.tape, hm.output, hm.size, fun k hk hn => hm.block k hk ?_⟩
    · rcases hh with hh | hh
      · rw [hh]; exact h3
      · exact .inr (Nat.le_trans h4 hh)
    · rintro (e | e)
      · rcases h3 with h3 | h3
        · exact hn (.inl (by rw [e, h3]))
        · exact hn (.inr (.inr (by rw [e]; exact h3)))
      · exact hn (.inr (.inl e))
  max := fun w ps ⟨L, hb', cap', h1, h2, h3, h4, h5⟩ => by
    have hl := in_len h5
    have hbb := h1.bds
    refine (kmax_at w kb _ L.length cap' L h1 hl.1).mono ?_
    rintro e w' ⟨⟨v, b, he, hx⟩, hm⟩
    have h1' := h1.mod hm (fun h => h) (fun h => h)
    refine ⟨v, b, he, ⟨L, hb', cap', h1', h2, h3, Nat.le_trans h4 hm.size, h5⟩, hm, fun cc c es hc hg hes => ⟨L, hb', cap', h1', h2, h3, Nat.le_trans h4 hm.size, ?_⟩⟩
    rw [hl.2.2] at hx
    obtain ⟨_, rfl⟩ := hx
    rw [ord_le hc.1.1 hS] at hg
    have := of_decide_eq_false hg
    exact h5.skip hq hd hc (by omega) hes

/-- What NearestSet tells of a keeper within a distance. -/
def NsTold (S : Nat) (q : TP) (dims kb hb cap : Nat) (mt : MT) (w : World) (e : Ending) (w' : World) : Prop :=
  e = .returned (.tuple #[]) ∧ ∃ ts rest hb' cap', Res q dims ts rest mt.pts ∧ (∀ t ∈ ts, fk t.1.1 ≤ fk S) ∧ (∀ t ∈ rest, fk S < fk t.1.1) ∧ DKS S w' kb hb' ts.length cap' (elsX ts) ∧ cap' ≤ maxLen ∧ Mod (fun k => k = hb ∨ k = kb ∨ w.heap.size ≤ k) w w'

set_option maxRecDepth 100000 in
set_option maxHeartbeats 4000000 in
/-- Tree.NearestSet, over a keeper that has just been made. -/
theorem nset_at (dims tb kb hb cap S : Nat) (n : Int) (v : Option Addr) (hdm : 0 < dims ∧ dims ≤ 4) (q : TP) (hqg : q.Gr) (hqx : q.xs.length = dims) (mt : MT) (h0 : mt ≠ .nil) (w : World) (ht : Blk w tb 79 [.pointer v, .int .i64 n]) (hI : mt.In w (.pointer v)) (hq : q.Ok w dims) (hP : PtsOk (fun k => k = hb ∨ k = kb ∨ w.heap.size ≤ k) w dims mt.pts) (hqf : Far (fun k => k = hb ∨ k = kb ∨ w.heap.size ≤ k) q) (hG : ∀ k ∈ mt.gs, ¬ (fun k => k = hb ∨ k = kb ∨ w.heap.size ≤ k) k)
    (hO : mt.T.Ord leB) (hE : mt.T.Each (fun _ d => d < dims)) (hK : DKS S w kb hb 1 cap [none]) (hN : mt.pts.length ≤ 60000) (hcm1 : cap ≤ maxLen) (hS : Lox.Fin S) :
    Calls Try.prog 56 #[.pointer (some ⟨tb, 0, none⟩), KP kb, .iface 73 (.slice q.A dims q.c)] w (NsTold S q dims kb hb cap mt w) := by
  have hne : ∃ vv, v = some vv := by
    cases mt with
    | nil => exact absurd rfl h0
    | node g p d bx l r => obtain ⟨hv, _⟩ := hI; cases hv; exact ⟨_, rfl⟩
  obtain ⟨vv, rfl⟩ := hne
  have c0 : w.cell? ⟨tb, 0, none⟩ = some (.pointer (some vv)) := ht.at (i := 0) rfl
  have SRC : Hid (Calls Try.prog 71 #[.pointer (some vv), .iface 73 (.slice q.A dims q.c), KP kb] w (SsTold (fun k => k = hb ∨ k = kb ∨ w.heap.size ≤ k) (StD q dims S kb hb w.heap.size) [] mt w)) :=
    sset_at (kpr_d (kb := kb) (hb := hb) (H := w.heap.size) ⟨hqg, hqx⟩ hdm.2 hS) hdm hqg hqf mt w _ [] hI hG hq hP hO hE (⟨[none], hb, cap, hK, hcm1, .inl rfl, Nat.le_refl _, InP.start⟩) (by simp; omega)
  have m1 := kmeth_len8
  have m2 := kmeth_max8
  have m3 := kmeth_pop8
  have m5 := run_cmp
  have HW := Lib.hid (And.intro hP hN)
  clear ht hI hq hP hG hO hE hK hN h0
  go_enter Try.func56, Try.ntmps56
  go_upto_region 2 with (go_at_call 71; refine SRC.out.mono ?_; rintro _ w1 ⟨rfl, ps', hp', hst, hm1⟩; have HST := Lib.hid (And.intro hp' (And.intro hst hm1)); clear hp' hst hm1)
  obtain ⟨L, hb', cap', hkL, hcm, hhb, hhs, hkp⟩ := HST.out.2.1
  rw [List.nil_append] at hkp
  have HL := Lib.hid (And.intro hkL (And.intro hkp.one (And.intro hkp HST.out.2.2)))
  clear hkL hkp
  have hlen := HL.out.1.bds
  have hL0 : 0 < L.length := (in_len HL.out.2.2.1).1
  have hLn : L.length < 65536 := by have h1 := HW.out.2; have h2 := HST.out.1.length_eq; have h3 := (in_len HL.out.2.2.1).2.1; omega
  have hL0' : ((L.length : Int) != 0) = true := bne_iff_ne.2 (by omega)
  have LEN : Hid (∀ w2 : World, Mod (fun _ => False) w1 w2 → Calls Try.prog 137 #[.pointer (some ⟨kb, 0, none⟩)] w2 fun e w' => e = .returned (.int .i64 L.length) ∧ w' = w2) := fun w2 hm => (klen_at w2 kb hb' L.length cap' L (HL.out.1.mod hm (fun h => h) (fun h => h))).mono fun e w' ⟨h1, h2⟩ => ⟨h1, h2.symm⟩
  have MAX : Hid (∀ w2 : World, Mod (fun _ => False) w1 w2 → Calls Try.prog 139 #[.pointer (some ⟨kb, 0, none⟩)] w2 fun e w' => (∃ v b, e = .returned (.agg #[v, .float .f64 b]) ∧ ElAtD S 73 v b (at' L 0)) ∧ Mod (fun _ => False) w1 w') := fun w2 hm => (kmax_at w2 kb hb' L.length cap' L (HL.out.1.mod hm (fun h => h) (fun h => h)) hL0).mono fun e w' ⟨h1, h2⟩ => ⟨h1, hm.trans h2⟩
  have SRT : Hid (∀ w2 : World, Mod (fun _ => False) w1 w2 → Calls Try.prog 72 #[.iface 166 (.pointer (some ⟨w2.heap.size, 0, none⟩))] (w2.alloc (.cells #[KP kb] 168)) fun e w' => e = .returned (.tuple #[]) ∧ ∃ els', Hid (els'.Perm L ∧ UpE els' ∧ DKS S w' kb hb' L.length cap' els' ∧ Mod (fun k => k = hb ∨ k = kb ∨ w.heap.size ≤ k) w w')) := by
    intro w2 hm
    have hm3 := hm.alloc (.cells #[KP kb] 168)
    have hk := HL.out.1.mod hm3 (fun h => h) (fun h => h)
    refine (ksort_at S w2.heap.size kb hb' L.length cap' L _ hk (Blk.new' w2 #[KP kb] 168) HL.out.2.1 hLn (by have := hm.size; omega)).mono ?_
    rintro e w' ⟨rfl, els', h1, h2, h3, h4⟩
    exact ⟨rfl, els', h1, h2, h3, (HL.out.2.2.2.trans (none_S hm3)).trans ⟨h4.os, h4.tape, h4.output, h4.size, fun k hk hn => h4.block k hk (fun e => hn (by rw [e]; rcases hhb with h | h; exact .inl h; exact .inr (.inr h)))⟩⟩
  have REV : Hid (∀ w2 : World, Calls Try.prog 73 #[KP kb] w2 fun e w' => e = .returned (.iface 166 (.pointer (some ⟨w2.heap.size, 0, none⟩))) ∧ w' = w2.alloc (.cells #[KP kb] 168)) := fun w2 => rev_at 109 (.pointer (some ⟨kb, 0, none⟩)) w2
  cases htop : at' L 0 with
  | none =>
    have HT := Lib.hid htop
    clear htop
    go_upto_if 31 with (first
      | (go_at_call 137; refine (LEN.out _ (by first | exact Mod.refl _ _)).mono ?_; rintro _ _ ⟨rfl, rfl⟩)
      | (go_at_call 139; refine (MAX.out _ (by first | exact Mod.refl _ _)).mono ?_; rintro _ w2 ⟨⟨v5, b5, rfl, he5⟩, hm2⟩; rw [HT.out] at he5; obtain ⟨rfl, rfl⟩ := he5; have HM2 := Lib.hid hm2; clear hm2)
      | (go_at_call 73; refine (REV.out _).mono ?_; rintro _ _ ⟨rfl, rfl⟩)
      | (go_at_call 72; refine (SRT.out _ HM2.out).mono ?_; rintro _ w3 ⟨rfl, els', H3⟩))
    go_wp2_with (go_at_call 140; refine (kpopm_at _ kb hb' L.length cap' els' H3.out.2.2.1 hL0 (by omega)).mono ?_; rintro _ w4 ⟨⟨vp, rfl⟩, hk4, hm4⟩; have H4 := Lib.hid (And.intro hk4 hm4); clear hk4 hm4)
    go_end0
    obtain ⟨ts, rest, hres, hin, hout, _, hel⟩ := HL.out.2.2.1.fin H3.out.1 H3.out.2.1
    have hp := HST.out.1
    have hll : L.length = ts.length + 1 := by have := H3.out.1.length_eq; rw [hel, List.length_append, elsX_length] at this; simpa using this.symm
    refine ⟨rfl, ts, rest, hb', cap', hres.perm' hp, hin, hout, ?_, hcm, ?_⟩
    · have := H4.out.1
      rw [hel, hll, Nat.add_sub_cancel, List.take_left' (elsX_length ts)] at this
      exact this
    · exact H3.out.2.2.2.trans ⟨H4.out.2.os, H4.out.2.tape, H4.out.2.output, H4.out.2.size, fun k hk hn => H4.out.2.block k hk (fun e => hn (.inr (.inl e)))⟩
  | some m =>
    exact absurd htop (by rw [(in_len HL.out.2.2.1).2.2]; simp)
end Go.Proofs.Ytmeooadgdagiiaa.K.D
