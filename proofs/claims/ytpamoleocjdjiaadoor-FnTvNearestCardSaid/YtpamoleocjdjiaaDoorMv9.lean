/- Steps of a proof, one behind another: The walk of partition: the points of the window in the order of their distances from one of them. The walks of selectVantage and build of a vantage-point tree. The walks of New and DoorDrawn: a vantage-point tree made of points. Conditions: as each theorem says. -/
import Derived.Test.YtpamoleocjdjiaaDoorMv8
import Derived.Deep.RegionHeld3
import Derived.IntWalk

namespace Go.Proofs.YtpamoleocjdjiaaDoor
open Go.RowKit Lox
set_option linter.unusedVariables false
attribute [local go_sem] run_store_flt run_store_fn

theorem vmeth_dist (S : Value) (w : World) : (method 308 78 S "Distance").run Tryd.prog w = .ok (111, S) w := by kernel_rfl

theorem blk_ne {w : World} {a b : Nat} {T T' : TypeId} {xs ys : List Value} (h : Blk w a T xs) (k : Blk w b T' ys) (hT : T ≠ T') : a ≠ b := by
  rintro rfl
  unfold Blk at h k
  rw [h] at k
  injection k with k
  injection k with _ k
  exact hT k

/-- The squared distance of two points. -/
noncomputable def vsq (dims : Nat) (p q : TP) : Int := sqx p.xs q.xs dims

/-- What building a tree turns: the points' array, the distances, the builder, the generator. -/
def Bz (pb wb bb gb : Nat) (k : Nat) : Prop := k = pb ∨ k = wb ∨ k = bb ∨ k = gb

def bldCells (wb n N rb : Nat) : List Value := [.slice (some ⟨wb, 0, none⟩) n N, .func (Fn.func 56) #[.pointer (some ⟨rb, 0, none⟩)] #[], .func (Fn.func 57) #[.pointer (some ⟨rb, 0, none⟩)] #[]]

/-- The builder in memory. -/
structure BD (w : World) (bb wb N rb gb : Nat) : Prop where
  bld : ∃ n, n ≤ N ∧ Blk w bb 119 (bldCells wb n N rb)
  wk : ∃ ds : List Nat, ds.length = N ∧ Wks w wb ds
  rnd : ∃ hi lo, Rnd w rb gb hi lo

theorem Rnd.mod {w w' : World} {rb gb hi lo : Nat} {S : Nat → Prop} (h : Rnd w rb gb hi lo) (hm : Mod S w w') (h1 : ¬ S gb) (h2 : ¬ S rb) : Rnd w' rb gb hi lo := ⟨h.1, ⟨h.2.1.1, h.2.1.2.mod hm h1⟩, h.2.2.mod hm h2⟩

theorem BD.mod {w w' : World} {bb wb N rb gb : Nat} {S : Nat → Prop} (h : BD w bb wb N rb gb) (hm : Mod S w w') (h1 : ¬ S bb) (h2 : ¬ S wb) (h3 : ¬ S rb) (h4 : ¬ S gb) : BD w' bb wb N rb gb := by
  obtain ⟨n, hn, hb⟩ := h.bld
  obtain ⟨ds, hd, hw⟩ := h.wk
  obtain ⟨hi, lo, hr⟩ := h.rnd
  exact ⟨⟨n, hn, hb.mod hm h1⟩, ⟨ds, hd, hw.mod hm h2⟩, hi, lo, hr.mod hm h4 h3⟩

/-- The points may be read, and lie in none of the blocks that turn. -/
def VWin (w : World) (dims pb wb bb gb : Nat) (l : List TP) : Prop := ∀ p ∈ l, p.Ok w dims ∧ p.Gr ∧ ∀ b o, p.A = some ⟨b, o, none⟩ → ¬ Bz pb wb bb gb b

theorem TP.Ok.apart {w w' : World} {dims : Nat} {S : Nat → Prop} {p : TP} (h : p.Ok w dims) (hm : Mod S w w') (hS : ∀ b o, p.A = some ⟨b, o, none⟩ → ¬ S b) : p.Ok w' dims := by
  refine ⟨h.1, h.2.1, fun h0 => ?_⟩
  obtain ⟨b, o, e, hc⟩ := h.2.2 h0
  exact ⟨b, o, e, fun j v hv => (hm.cell (lt_of_cell (hc j v hv)) (hS b o e)).trans (hc j v hv)⟩

theorem VWin.mod {w w' : World} {dims pb wb bb gb : Nat} {l : List TP} (h : VWin w dims pb wb bb gb l) (hm : Mod (Bz pb wb bb gb) w w') : VWin w' dims pb wb bb gb l :=
  fun p hp => ⟨(h p hp).1.apart hm (h p hp).2.2, (h p hp).2⟩

theorem VWin.sub {w : World} {dims pb wb bb gb : Nat} {l l' : List TP} (h : VWin w dims pb wb bb gb l) (hs : ∀ p ∈ l', p ∈ l) : VWin w dims pb wb bb gb l' := fun p hp => h p (hs p hp)

/-- What partition tells. -/
def PartTold (dims pb wb bb gb rb N n c : Nat) (v : TP) (A l B : List TP) (w : World) (e : Ending) (w' : World) : Prop :=
  ∃ (r : Nat) (qs : List TP) (m : TP), e = .returned (.tuple #[.float .f64 r, .slice (some ⟨pb, A.length + 1, none⟩) (n / 2 - 1) (c - 1), .slice (some ⟨pb, A.length + n / 2, none⟩) (n - n / 2) (c - n / 2)]) ∧
    qs.Perm l ∧ qs.Pairwise (fun a b => vsq dims v a ≤ vsq dims v b) ∧ qs[n / 2]? = some m ∧ Dst r (vsq dims v m) ∧ VPs w' pb (A ++ (qs ++ B)) ∧ BD w' bb wb N rb gb ∧ Mod (Bz pb wb bb gb) w w'

/-- The distances so far. -/
def PDs (dims wb N k : Nat) (v : TP) (l : List TP) (w : World) : Prop :=
  ∃ xs ys : List Nat, xs.length = k ∧ xs.length + ys.length = N ∧ Wks w wb (xs ++ ys) ∧ ∀ (j x : Nat) (q : TP), xs[j]? = some x → l[j]? = some q → Dst x (vsq dims v q)

theorem PDs.step {dims wb N k r : Nat} {v q : TP} {l : List TP} {w w' : World} (h : PDs dims wb N k v l w) (hk : k < N) (hq : l[k]? = some q) (hr : Dst r (vsq dims v q)) (hw : ∀ ds, Wks w wb ds → k < ds.length → Wks w' wb (ds.set k r)) : PDs dims wb N (k + 1) v l w' := by
  obtain ⟨xs, ys, h1, h2, h3, h4⟩ := h
  cases ys with
  | nil => simp at h2; omega
  | cons y ys =>
    refine ⟨xs ++ [r], ys, by simp [h1], by simp at h2 ⊢; omega, ?_, fun j x q' hx hq' => ?_⟩
    · have := hw _ h3 (by simp; omega)
      rw [List.set_append_right _ _ (by omega), h1, Nat.sub_self, List.set_cons_zero] at this
      simpa using this
    · by_cases hj : j < k
      · rw [List.getElem?_append_left (by omega)] at hx
        exact h4 j x q' hx hq'
      · rw [List.getElem?_append_right (by omega), h1] at hx
        have hj2 : j = k := by
          have := (List.getElem?_eq_some_iff.1 hx).1
          simp at this
          omega
        subst hj2
        simp at hx
        subst hx
        rw [hq] at hq'
        cases hq'
        exact hr

/-- The pairs of distances and points, behind the sort. -/
theorem part_order {dims : Nat} {v : TP} {ds ds' : List DP} (hl : ∀ x ∈ ds, Dst x.1 (vsq dims v x.2)) (hb : ∀ x ∈ ds, 0 ≤ vsq dims v x.2 ∧ vsq dims v x.2 ≤ 33554432) (hp : ds'.Perm ds) (ho : ds'.Pairwise (fun a b => fk a.1 ≤ fk b.1)) :
    (ds'.map (·.2)).Pairwise (fun a b => vsq dims v a ≤ vsq dims v b) := by
  rw [List.pairwise_map]
  refine (List.pairwise_iff_getElem.2 fun i j hi hj hij => ?_)
  have h1 := List.pairwise_iff_getElem.1 ho i j hi hj hij
  have m1 := hp.mem_iff.1 (List.getElem_mem hi)
  have m2 := hp.mem_iff.1 (List.getElem_mem hj)
  exact dst_le (hl _ m1) (hl _ m2) (hb _ m1).2 (hb _ m2).1 ((vl_le (hl _ m1).1 (hl _ m2).1).2 h1)

theorem part_ne {w : World} {dims pb wb bb gb rb N : Nat} {ps : List TP} (hP : VPs w pb ps) (hD : BD w bb wb N rb gb) : (bb ≠ pb ∧ wb ≠ pb ∧ gb ≠ pb ∧ rb ≠ pb) ∧ (bb ≠ wb ∧ gb ≠ wb ∧ rb ≠ wb) ∧ (gb ≠ bb ∧ rb ≠ bb) ∧ rb ≠ gb := by
  obtain ⟨_, hp⟩ := hP
  obtain ⟨_, _, hb⟩ := hD.bld
  obtain ⟨_, _, _, hw⟩ := hD.wk
  obtain ⟨_, _, hr1, hr2, hr3⟩ := hD.rnd
  exact ⟨⟨blk_ne hb hp (by decide), blk_ne hw hp (by decide), blk_ne hr2.2 hp (by decide), blk_ne hr3 hp (by decide)⟩, ⟨blk_ne hb hw (by decide), blk_ne hr2.2 hw (by decide), blk_ne hr3 hw (by decide)⟩, ⟨blk_ne hr2.2 hb (by decide), blk_ne hr3 hb (by decide)⟩, hr1⟩

theorem vsq_bd {w : World} {dims pb wb bb gb : Nat} {l : List TP} (h : VWin w dims pb wb bb gb l) (hd : dims ≤ 4) {p q : TP} (hp : p ∈ l) (hq : q ∈ l) : 0 ≤ vsq dims p q ∧ vsq dims p q ≤ 33554432 := by
  obtain ⟨p1, p2, _⟩ := h p hp
  obtain ⟨q1, q2, _⟩ := h q hq
  exact ⟨sqx_nn _ _ _, sqx_le10 p.xs q.xs (TP.gr_iff.1 p2) (TP.gr_iff.1 q2) dims (by have := p1.1; omega) (by have := q1.1; omega) hd⟩

/-- The pairs that the sort turns. -/
theorem part_pairs {dims wb N n : Nat} {v : TP} {l : List TP} {w : World} (h : PDs dims wb N n v l w) (hl : l.length = n) : ∃ (ds : List DP) (C : List Nat), ds.length = n ∧ ds.length + C.length = N ∧ Wks w wb (ds.map (·.1) ++ C) ∧ ds.map (·.2) = l ∧ ∀ x ∈ ds, Dst x.1 (vsq dims v x.2) ∧ x.2 ∈ l := by
  obtain ⟨xs, ys, h1, h2, h3, h4⟩ := h
  refine ⟨xs.zip l, ys, by simp [h1, hl], by simp [h1, hl]; omega, ?_, List.map_snd_zip (by omega), fun x hx => ?_⟩
  · rw [List.map_fst_zip (by omega)]; exact h3
  · obtain ⟨j, hj, e⟩ := List.getElem_of_mem hx
    rw [List.getElem_zip] at e
    rw [List.length_zip] at hj
    subst e
    exact ⟨h4 j _ _ (List.getElem?_eq_getElem (by omega)) (List.getElem?_eq_getElem (by omega)), List.getElem_mem _⟩

/-- What partition tells, out of what the sort told. -/
theorem part_end {dims pb wb bb gb rb N n c : Nat} {v : TP} {A l B : List TP} {w w1 w2 : World} {ds ds' : List DP} {C : List Nat} {d : DP} (hn : n ≤ N) (hW : VWin w dims pb wb bb gb l) (hv : v ∈ l) (hdm : dims ≤ 4) (hD : BD w bb wb N rb gb)
    (hb : Blk w2 bb 119 (bldCells wb n N rb)) (h01 : Mod (Bz pb wb bb gb) w w1) (h12 : Mod (fun k => k = pb ∨ k = wb) w1 w2) (hg : ∃ hi lo, Rnd w2 rb gb hi lo) (hlen : ds.length + C.length = N)
    (hl : ds.map (·.2) = l) (hd : ∀ x ∈ ds, Dst x.1 (vsq dims v x.2) ∧ x.2 ∈ l) (hp : ds'.Perm ds) (ho : ds'.Pairwise (fun a b => fk a.1 ≤ fk b.1)) (hw : Wks w2 wb (ds'.map (·.1) ++ C)) (hP : VPs w2 pb (A ++ (ds'.map (·.2) ++ B))) (hm : ds'[n / 2]? = some d) :
    PartTold dims pb wb bb gb rb N n c v A l B w (.returned (.tuple #[.float .f64 d.1, .slice (some ⟨pb, A.length + 1, none⟩) (n / 2 - 1) (c - 1), .slice (some ⟨pb, A.length + n / 2, none⟩) (n - n / 2) (c - n / 2)])) w2 := by
  have hdm2 := hd d (hp.mem_iff.1 (List.mem_of_getElem? hm))
  refine ⟨d.1, ds'.map (·.2), d.2, rfl, by rw [← hl]; exact hp.map _, part_order (fun x hx => (hd x hx).1) (fun x hx => vsq_bd hW hdm hv (hd x hx).2) hp ho, by rw [List.getElem?_map, hm]; rfl, hdm2.1, hP, ⟨⟨n, hn, hb⟩, ⟨_, by rw [List.length_append, List.length_map, hp.length_eq]; exact hlen, hw⟩, hg⟩, h01.trans (h12.mono fun k _ h => ?_)⟩
  rcases h with h | h
  · exact .inl h
  · exact .inr (.inl h)

set_option maxHeartbeats 8000000 in
theorem vpartition_at (w : World) (dims pb wb bb gb rb N n c : Nat) (v : TP) (A l B : List TP) (hP : VPs w pb (A ++ (l ++ B))) (hl : l.length = n) (hn2 : 2 ≤ n) (hN : n ≤ N) (hN2 : N ≤ 200) (hA : A.length + n ≤ 1099511627776) (hc : n ≤ c) (hc2 : c ≤ 9223372036854775807)
    (hW : VWin w dims pb wb bb gb l) (hv : v ∈ l) (hD : BD w bb wb N rb gb) (hdm : dims ≤ 4) :
    Calls Tryd.prog 66 #[.pointer (some ⟨bb, 0, none⟩), .iface 78 (.slice v.A dims v.c), .slice (some ⟨pb, A.length, none⟩) n c] w (PartTold dims pb wb bb gb rb N n c v A l B w) := by
  have m1 := vmeth_dist
  obtain ⟨⟨e1, e2, e3, e4⟩, ⟨e5, e6, e7⟩, ⟨e8, e9⟩, e10⟩ := part_ne (dims := dims) hP hD
  obtain ⟨n0, hn0, hb⟩ := hD.bld
  have c0 : w.cell? ⟨bb, 0, none⟩ = some (.slice (some ⟨wb, 0, none⟩) n0 N) := hb.at (i := 0) rfl
  have f0 := hb.frozen 0
  have hB1 : Blk (w.setCell ⟨bb, 0, none⟩ (.slice (some ⟨wb, 0, none⟩) n N)) bb 119 (bldCells wb n N rb) := hb.set 0 _
  have hM1 : Mod (fun j => j = bb ∨ j = wb) w (w.setCell ⟨bb, 0, none⟩ (.slice (some ⟨wb, 0, none⟩) n N)) := (Mod.refl _ _).set (.inl (.inl rfl)) _
  have hP1 : PDs dims wb N 0 v l (w.setCell ⟨bb, 0, none⟩ (.slice (some ⟨wb, 0, none⟩) n N)) := by
    obtain ⟨ds, hd, hw⟩ := hD.wk
    obtain ⟨rest, hw⟩ := hw
    exact ⟨[], ds, rfl, by simpa using hd, ⟨rest, hw.other (a := ⟨bb, 0, none⟩) _ e5⟩, fun j x q hx => by simp at hx⟩
  have HK := Lib.hid (And.intro hP (And.intro hl (And.intro hW (And.intro hv hD))))
  have H1 := Lib.hid (And.intro hB1 (And.intro hM1 hP1))
  have HE := Lib.hid (And.intro (And.intro e1 (And.intro e2 (And.intro e3 e4))) (And.intro (And.intro e5 (And.intro e6 e7)) (And.intro (And.intro e8 e9) e10)))
  have hvv := HK.out.2.2.1 v hv
  have HV := Lib.hid hvv
  clear hP hl hW hv hD hb hB1 hM1 hP1 e3 e4 e6 e7 e8 e9 e10 hvv
  go_enter Tryd.func66, Tryd.ntmps66
  go_wp2_with fail
  go_loopw [24] (fun i w' => ∃ k : Nat, k ≤ n ∧ i = .int .i64 k ∧ Hid (Blk w' bb 119 (bldCells wb n N rb) ∧ Mod (fun j => j = bb ∨ j = wb) w w' ∧ PDs dims wb N k v l w')) (fun i _ => n - (intOf i).toNat)
  case atStart => exact ⟨0, Nat.zero_le _, rfl, H1.out⟩
  case round =>
    obtain ⟨k, hk, rfl, HR⟩ := hrel
    by_cases hlt : k < n
    · have hkl : k < l.length := by rw [HK.out.2.1]; exact hlt
      obtain ⟨p, hp⟩ : ∃ p, l[k]? = some p := ⟨_, List.getElem?_eq_getElem hkl⟩
      have hpm := List.mem_of_getElem? hp
      have hpp := HK.out.2.2.1 p hpm
      have hS : ∀ q : TP, q.Ok w dims ∧ q.Gr ∧ (∀ b o, q.A = some ⟨b, o, none⟩ → ¬ Bz pb wb bb gb b) → q.Ok wr dims := fun q hq => hq.1.apart HR.out.2.1 fun b o e h => hq.2.2 b o e (by rcases h with h | h; exact .inr (.inr (.inl h)); exact .inr (.inl h))
      have hpc : wr.cell? ⟨pb, A.length + k, none⟩ = some p.iv := (HK.out.1.mod HR.out.2.1 (by rintro (h | h); exact e1 h.symm; exact e2 h.symm)).at (by rw [List.getElem?_append_right (by omega), Nat.add_sub_cancel_left, List.getElem?_append_left (by omega)]; exact hp)
      unfold TP.iv TP.v at hpc
      rw [hpp.1.1] at hpc
      have hbc : wr.cell? ⟨bb, 0, none⟩ = some (.slice (some ⟨wb, 0, none⟩) n N) := HR.out.1.at (i := 0) rfl
      have hDV := vdist_at wr dims v p (hS v HV.out) (hS p hpp) HV.out.2.1 hpp.2.1 hdm
      have hbd := vsq_bd HK.out.2.2.1 hdm HK.out.2.2.2.1 hpm
      have HDV := Lib.hid (And.intro hDV (And.intro hbd hp))
      obtain ⟨y, hy, hyf⟩ : ∃ y, wr.cell? ⟨wb, k, none⟩ = some (.float .f64 y) ∧ wr.frozen? ⟨wb, k, none⟩ = false := by
        obtain ⟨xs, ys, q1, q2, q3, q4⟩ := HR.out.2.2
        exact ⟨_, q3.at (List.getElem?_eq_getElem (by simp; omega)), q3.frozen k⟩
      have i0' : (0 : Int) ≤ k := by omega
      have i1' : (k : Int) < n := by omega
      clear hkl hp hpm hpp hS hDV hbd
      go_wp2_with (first
        | (go_at_call 111; refine HDV.out.1.mono ?_; rintro _ _ ⟨⟨r, rfl, hr⟩, rfl⟩; have HRR := Lib.hid hr; clear hr)
        | (go_at_call 82; refine (isinf_at _ r HRR.out.1 HRR.out.2.1 (dst_big HRR.out HDV.out.2.1.2 HDV.out.2.1.1)).mono ?_; rintro _ _ ⟨rfl, rfl⟩))
      go_roundw
      case rel => exact ⟨k + 1, by omega, by go_num, HR.out.1.other _ (by exact fun h => HE.out.2.1.1 h.symm), HR.out.2.1.set (.inl (.inr rfl)) _, HR.out.2.2.step (by omega) HDV.out.2.2 HRR.out fun ds hw hds => hw.set k hds r⟩
      case measure => simp [intOf]; omega
    · obtain rfl : k = n := by omega
      obtain ⟨ds, C, d1, d2, d3, d4, d5⟩ := part_pairs HR.out.2.2 HK.out.2.1
      have hbc : wr.cell? ⟨bb, 0, none⟩ = some (.slice (some ⟨wb, 0, none⟩) k N) := HR.out.1.at (i := 0) rfl
      have hVP : VPs wr pb (A ++ (ds.map (·.2) ++ B)) := by rw [d4]; exact HK.out.1.mod HR.out.2.1 (by rintro (h | h); exact e1 h.symm; exact e2 h.symm)
      have HS := Lib.hid (bsort_at wr wb pb k N c A B C ds e2 d3 hVP d1 (fun x hx => (d5 x hx).1.1) (by omega) hA)
      have HD := Lib.hid (And.intro d1 (And.intro d2 (And.intro d4 d5)))
      clear d1 d2 d3 d4 d5 hVP
      go_wp2_with (go_at_call 51; refine HS.out.mono ?_; rintro _ w2 ⟨rfl, ds', p1, p2, p3, p4, p5⟩; have b2 : w2.cell? ⟨bb, 0, none⟩ = some (.slice (some ⟨wb, 0, none⟩) k N) := (p5.cell (lt_of_cell hbc) (by rintro (h | h); exact HE.out.1.1 h; exact HE.out.2.1.1 h)).trans hbc; have HQ := Lib.hid (And.intro p1 (And.intro p2 (And.intro p3 (And.intro p4 p5)))); clear p1 p2 p3 p4 p5)
      have hl' : ds'.length = k := by rw [HQ.out.1.length_eq, HD.out.1]
      obtain ⟨d, hd⟩ : ∃ d, ds'[k / 2]? = some d := ⟨_, List.getElem?_eq_getElem (by omega)⟩
      have q1 : w2.cell? ⟨wb, k / 2, none⟩ = some (.float .f64 d.1) := HQ.out.2.2.1.at (by rw [List.getElem?_append_left (by rw [List.length_map]; omega), List.getElem?_map, hd]; rfl)
      have HDD := Lib.hid hd
      have j0 : (0 : Int) ≤ (k : Int) / 2 := by omega
      have j1 : (k : Int) / 2 < k := by omega
      have j2 : ((k : Int) / 2).toNat = k / 2 := by omega
      have j3 : (1 : Int) < k := by omega
      have j4 : (1 : Int) ≤ (k : Int) / 2 := by omega
      have j5 : (k : Int) / 2 ≤ c := by omega
      have j6 : (1 : Int) ≤ c := by omega
      have j7 : (k : Int) / 2 ≤ k := by omega
      clear hd hl'
      go_region
      all_goals
        go_wp2_with fail
        refine bodyPost_ret (v := .tuple #[.float .f64 d.1, .slice (some ⟨pb, A.length + 1, none⟩) (k / 2 - 1) (c - 1), .slice (some ⟨pb, A.length + k / 2, none⟩) (k - k / 2) (c - k / 2)]) (by simp [results, Tryd.results66, go_sem]) rfl ?_
        have h1 : Mod (Bz pb wb bb gb) w wr := HR.out.2.1.mono fun j _ h => by
          rcases h with h | h
          · exact .inr (.inr (.inl h))
          · exact .inr (.inl h)
        obtain ⟨hi, lo, hr⟩ := HK.out.2.2.2.2.rnd
        obtain ⟨⟨x1, x2, x3, x4⟩, ⟨x5, x6, x7⟩, ⟨x8, x9⟩, x10⟩ := HE.out
        refine part_end hN HK.out.2.2.1 HK.out.2.2.2.1 hdm HK.out.2.2.2.2 ((HR.out.1.mod HQ.out.2.2.2.2 (by rintro (h | h); exact x1 h; exact x5 h)).drew) h1 HQ.out.2.2.2.2.drew ⟨hi, lo, ((hr.mod HR.out.2.1 (by rintro (h | h); exact x8 h; exact x6 h) (by rintro (h | h); exact x9 h; exact x7 h)).mod HQ.out.2.2.2.2.drew (by rintro (h | h); exact x3 h; exact x6 h) (by rintro (h | h); exact x4 h; exact x7 h))⟩ HD.out.2.1 HD.out.2.2.1 HD.out.2.2.2 HQ.out.1 HQ.out.2.1 ?_ ?_ HDD.out
        · exact HQ.out.2.2.1
        · exact HQ.out.2.2.2.1
end Go.Proofs.YtpamoleocjdjiaaDoor

namespace Go.Proofs.YtpamoleocjdjiaaDoor
open Go.RowKit Lox
set_option linter.unusedVariables false
attribute [local go_sem] run_store_flt run_store_fn
attribute [local go_sem ↓] Go.wp_at_zero Go.wp_at_succ

/-- What selectVantage tells. -/
def SelTold (dims pb wb bb gb rb N : Nat) (A l B : List TP) (w : World) (e : Ending) (w' : World) : Prop :=
  ∃ p, p ∈ l ∧ e = .returned (.iface 78 (.slice p.A dims p.c)) ∧ VPs w' pb (A ++ (l ++ B)) ∧ BD w' bb wb N rb gb ∧ Mod (Bz pb wb bb gb) w w'

theorem Rnd.bd {w w' : World} {pb wb bb gb rb N hi lo : Nat} {ps : List TP} (hP : VPs w pb ps) (hD : BD w bb wb N rb gb) (hr : Rnd w' rb gb hi lo) (hm : Mod (fun k => k = gb) w w') : VPs w' pb ps ∧ BD w' bb wb N rb gb ∧ Mod (Bz pb wb bb gb) w w' := by
  obtain ⟨⟨x1, x2, x3, x4⟩, ⟨x5, x6, x7⟩, ⟨x8, x9⟩, x10⟩ := part_ne (dims := 0) hP hD
  obtain ⟨n, hn, hb⟩ := hD.bld
  obtain ⟨ds, hd, hw⟩ := hD.wk
  exact ⟨hP.mod hm (fun h => x3 h.symm), ⟨⟨n, hn, hb.mod hm (fun h => x8 h.symm)⟩, ⟨ds, hd, hw.mod hm (fun h => x6 h.symm)⟩, hi, lo, hr⟩, hm.mono fun _ _ h => .inr (.inr (.inr h))⟩

theorem sel_pick {w w2 : World} {dims pb n v : Nat} {A l B : List TP} (hl : l.length = n) (hv : v < n) (hP : VPs w2 pb (A ++ (l ++ B))) (hW : ∀ p ∈ l, p.Ok w dims) : ∃ p, p ∈ l ∧ w2.cell? ⟨pb, A.length + v, none⟩ = some (.iface 78 (.slice p.A dims p.c)) := by
  obtain ⟨p, hp⟩ : ∃ p, l[v]? = some p := ⟨_, List.getElem?_eq_getElem (by omega)⟩
  have hpm := List.mem_of_getElem? hp
  have hpc : w2.cell? ⟨pb, A.length + v, none⟩ = some p.iv := hP.at (by rw [List.getElem?_append_right (by omega), Nat.add_sub_cancel_left, List.getElem?_append_left (by omega)]; exact hp)
  unfold TP.iv TP.v at hpc
  rw [(hW p hpm).1] at hpc
  exact ⟨p, hpm, hpc⟩

set_option maxHeartbeats 2000000 in
theorem select_at (w : World) (dims pb wb bb gb rb N n c : Nat) (A l B : List TP) (hP : VPs w pb (A ++ (l ++ B))) (hl : l.length = n) (hn : 0 < n) (hN : n ≤ 200) (hD : BD w bb wb N rb gb) (hW : ∀ p ∈ l, p.Ok w dims) :
    Calls Tryd.prog 65 #[.pointer (some ⟨bb, 0, none⟩), .slice (some ⟨pb, A.length, none⟩) n c, .int .i64 1] w (SelTold dims pb wb bb gb rb N A l B w) := by
  obtain ⟨n0, hn0, hb⟩ := hD.bld
  obtain ⟨hi, lo, hr⟩ := hD.rnd
  have c1 : w.cell? ⟨bb, 1, none⟩ = some (.func (Fn.func 56) #[.pointer (some ⟨rb, 0, none⟩)] #[]) := hb.at (i := 1) rfl
  have HI := Lib.hid (intn_at w rb gb n hi lo hr hn hN)
  have HK := Lib.hid (And.intro hP (And.intro hl (And.intro hD hW)))
  clear hP hl hD hW hb hr
  go_enter Tryd.func65, Tryd.ntmps65
  go_wp2_with (go_at_call 56; go_loud (refine HI.out.mono ?_; rintro _ w2 ⟨v, hi2, lo2, rfl, hv, h1, h2⟩; have H2 := Lib.hid (Rnd.bd HK.out.1 HK.out.2.2.1 h1 h2); obtain ⟨p, hpm, hpc⟩ := sel_pick HK.out.2.1 hv H2.out.1 HK.out.2.2.2; have HPM := Lib.hid hpm; have i0 : (0 : Int) ≤ v := Int.natCast_nonneg _; have i1 : (v : Int) < n := Int.ofNat_lt.2 hv; clear h1 h2 hpm))
  go_ret
  exact ⟨p, HPM.out, rfl, H2.out⟩

/-- What build tells. -/
def VBuildTold (dims pb wb bb gb rb N : Nat) (A l B : List TP) (w : World) (e : Ending) (w' : World) : Prop :=
  ∃ (v : Value) (vt : VT), e = .returned v ∧ vt.In w' v ∧ VB.Built (vsq dims) l vt.T ∧ vt.gs.Nodup ∧ (∀ g ∈ vt.gs, w.heap.size ≤ g) ∧ (∃ l', l'.Perm l ∧ VPs w' pb (A ++ (l' ++ B))) ∧ BD w' bb wb N rb gb ∧ Mod (Bz pb wb bb gb) w w'

theorem bz_lt {w : World} {pb wb bb gb rb N : Nat} {ps : List TP} (hP : VPs w pb ps) (hD : BD w bb wb N rb gb) {k : Nat} (hk : Bz pb wb bb gb k) : k < w.heap.size := by
  obtain ⟨n, hn, hb⟩ := hD.bld
  obtain ⟨ds, hd, hw⟩ := hD.wk
  obtain ⟨hi, lo, hr⟩ := hD.rnd
  rcases hk with rfl | rfl | rfl | rfl
  · exact hP.lt
  · exact hw.lt
  · exact hb.lt
  · exact hr.2.1.2.lt

theorem BD.set {w : World} {bb wb N rb gb : Nat} (h : BD w bb wb N rb gb) {a : Addr} (v : Value) (hs : a.block ≠ bb ∧ a.block ≠ wb ∧ a.block ≠ rb ∧ a.block ≠ gb) : BD (w.setCell a v) bb wb N rb gb :=
  h.mod (S := fun k => k = a.block) ((Mod.refl (fun k => k = a.block) w).set (p := a) (.inl rfl) v) (Ne.symm hs.1) (Ne.symm hs.2.1) (Ne.symm hs.2.2.1) (Ne.symm hs.2.2.2)

/-- The window on the closer side. -/
theorem vwin_left {A qs B : List TP} {q : TP} {rest : List TP} {k : Nat} (e : qs = q :: rest) (hk : 0 < k) : A ++ (qs ++ B) = (A ++ [q]) ++ ((qs.take k).drop 1 ++ (qs.drop k ++ B)) := by
  have h := VB.cut_list e hk
  conv => lhs; rw [← h]
  simp

theorem vwin_right {A l1 g B : List TP} {q : TP} : (A ++ [q]) ++ (l1 ++ (g ++ B)) = (A ++ [q] ++ l1) ++ (g ++ B) := by simp

/-- The node's cells are as they were where only the builder's blocks have turned. -/
theorem vnode_keep {w w' : World} {pb wb bb gb G : Nat} {xs : List Value} (h : Blk w G 92 xs) (hm : Mod (Bz pb wb bb gb) w w') (hG : ¬ Bz pb wb bb gb G) : Blk w' G 92 xs := h.mod hm hG

/-- The tree of both sides, and a node above them. -/
theorem vbuild_end {dims pb wb bb gb rb N G n r : Nat} {A l B qs l1 l2 : List TP} {v m q : TP} {rest : List TP} {w w1 w2 w4 w6 : World} {v1 v2 : Value} {t1 t2 : VT} (hn : 2 ≤ n) (hl : l.length = n) (hB : ∀ k, Bz pb wb bb gb k → k < w.heap.size)
    (h01 : Mod (Bz pb wb bb gb) w w1) (hG : G = w1.heap.size) (hv : v ∈ l) (h12 : Mod (Bz pb wb bb gb) (w1.alloc (.cells #[v.iv, .float .f64 0, .pointer none, .pointer none] 92)) w2)
    (hq : qs.Perm l) (ho : qs.Pairwise (fun a b => vsq dims v a ≤ vsq dims v b)) (hm : qs[n / 2]? = some m) (hr : Dst r (vsq dims v m)) (e : qs = q :: rest)
    (h24 : Mod (Bz pb wb bb gb) (w2.setCell ⟨G, 1, none⟩ (.float .f64 r)) w4) (a1 : t1.In w4 v1) (a2 : VB.Built (vsq dims) ((qs.take (n / 2)).drop 1) t1.T) (a3 : t1.gs.Nodup) (a4 : ∀ g ∈ t1.gs, (w2.setCell ⟨G, 1, none⟩ (.float .f64 r)).heap.size ≤ g) (a5 : l1.Perm ((qs.take (n / 2)).drop 1))
    (h46 : Mod (Bz pb wb bb gb) (w4.setCell ⟨G, 2, none⟩ v1) w6) (b1 : t2.In w6 v2) (b2 : VB.Built (vsq dims) (qs.drop (n / 2)) t2.T) (b3 : t2.gs.Nodup) (b4 : ∀ g ∈ t2.gs, (w4.setCell ⟨G, 2, none⟩ v1).heap.size ≤ g) (b5 : l2.Perm (qs.drop (n / 2))) (b6 : VPs w6 pb ((A ++ [q] ++ l1) ++ (l2 ++ B))) (b7 : BD w6 bb wb N rb gb) (hrb : rb < w.heap.size) :
    VBuildTold dims pb wb bb gb rb N A l B w (.returned (.pointer (some ⟨G, 0, none⟩))) (w6.setCell ⟨G, 3, none⟩ v2) := by
  have s1 := h01.size
  have s2 := h12.size
  rw [World.size_alloc] at s2
  have ss : ∀ (w : World) (a : Addr) (v : Value), (w.setCell a v).heap.size = w.heap.size := fun w a v => by simp [World.setCell]
  have s4 := h24.size
  have s6 := h46.size
  rw [ss] at s4 s6
  simp only [ss] at a4 b4
  have hGn : ¬ Bz pb wb bb gb G := fun h => by have := hB _ h; omega
  have n1 : Blk (w1.alloc (.cells #[v.iv, .float .f64 0, .pointer none, .pointer none] 92)) G 92 [v.iv, .float .f64 0, .pointer none, .pointer none] := by subst hG; exact Blk.new' _ _ _
  have n2 : Blk (w2.setCell ⟨G, 1, none⟩ (.float .f64 r)) G 92 [v.iv, .float .f64 r, .pointer none, .pointer none] := (n1.mod h12 hGn).set 1 _
  have n4 : Blk (w4.setCell ⟨G, 2, none⟩ v1) G 92 [v.iv, .float .f64 r, v1, .pointer none] := (n2.mod h24 hGn).set 2 _
  have n6 : Blk (w6.setCell ⟨G, 3, none⟩ v2) G 92 [v.iv, .float .f64 r, v1, v2] := (n4.mod h46 hGn).set 3 _
  have l1t := a1.lt
  have l2t := b1.lt
  have hkeep1 : t1.In (w6.setCell ⟨G, 3, none⟩ v2) v1 := by
    have k1 : t1.In (w4.setCell ⟨G, 2, none⟩ v1) v1 := a1.keep fun k hk _ => Below.heap_setCell _ _ _ _ (by show k ≠ G; have := a4 k hk; omega)
    have k2 : t1.In w6 v1 := k1.mod h46 fun k hk hb => by have := hB _ hb; have := a4 k hk; omega
    exact k2.keep fun k hk _ => Below.heap_setCell _ _ _ _ (by show k ≠ G; have := a4 k hk; omega)
  have hkeep2 : t2.In (w6.setCell ⟨G, 3, none⟩ v2) v2 := b1.keep fun k hk _ => Below.heap_setCell _ _ _ _ (by show k ≠ G; have := b4 k hk; omega)
  have hgs : ∀ g ∈ t1.gs, g < w4.heap.size := fun g hg => l1t g hg
  have hmw : Mod (Bz pb wb bb gb) w (w6.setCell ⟨G, 3, none⟩ v2) := by
    have k1 : Mod (Bz pb wb bb gb) w w2 := (h01.alloc _).trans h12
    have k2 : Mod (Bz pb wb bb gb) w (w2.setCell ⟨G, 1, none⟩ (.float .f64 r)) := k1.set (.inr (by show w.heap.size ≤ G; omega)) _
    have k3 : Mod (Bz pb wb bb gb) w (w4.setCell ⟨G, 2, none⟩ v1) := (k2.trans h24).set (.inr (by show w.heap.size ≤ G; omega)) _
    exact (k3.trans h46).set (.inr (by show w.heap.size ≤ G; omega)) _
  refine ⟨_, .node G v r t1 t2, rfl, ⟨rfl, v1, v2, n6, hkeep1, hkeep2⟩, ?_, ?_, ?_, ⟨q :: (l1 ++ l2), ?_, ?_⟩, b7.set _ ⟨?_, ?_, ?_, ?_⟩, hmw⟩
  · exact VB.Built.more l qs v m r t1.T t2.T (by omega) hv hq ho (by rw [hl]; exact hm) hr (by rw [hl]; exact a2) (by rw [hl]; exact b2)
  · show (G :: (t1.gs ++ t2.gs)).Nodup
    rw [List.nodup_cons, List.nodup_append]
    refine ⟨fun h => ?_, a3, b3, fun a ha b hb e => ?_⟩
    · rcases List.mem_append.1 h with h | h
      · have := a4 _ h; omega
      · have := b4 _ h; omega
    · have h1 := hgs _ ha
      have h2 := b4 _ hb
      omega
  · intro g hg
    rcases List.mem_cons.1 hg with rfl | hg
    · omega
    · rcases List.mem_append.1 hg with hg | hg
      · have := a4 g hg; omega
      · have := b4 g hg; omega
  · have h := (a5.append b5).cons q
    rw [VB.cut_list e (by omega)] at h
    exact h.trans hq
  · have e1 : A ++ ((q :: (l1 ++ l2)) ++ B) = (A ++ [q] ++ l1) ++ (l2 ++ B) := by simp
    rw [e1]
    have : Mod (fun k => k = G) w6 (w6.setCell ⟨G, 3, none⟩ v2) := (Mod.refl (fun k => k = G) w6).set (p := ⟨G, 3, none⟩) (.inl rfl) _
    exact b6.mod this (fun h => hGn (.inl h.symm))
  · intro h; exact hGn (.inr (.inr (.inl h)))
  · intro h; exact hGn (.inr (.inl h))
  · intro h; have h : G = rb := h; omega
  · intro h; exact hGn (.inr (.inr (.inr h)))

theorem vnode_cells {w : World} {G : Nat} {a b c d : Value} (h : Blk w G 92 [a, b, c, d]) : w.cell? ⟨G, 0, none⟩ = some a ∧ w.cell? ⟨G, 1, none⟩ = some b ∧ w.cell? ⟨G, 2, none⟩ = some c ∧ w.cell? ⟨G, 3, none⟩ = some d ∧ ∀ i, w.frozen? ⟨G, i, none⟩ = false :=
  ⟨h.at (i := 0) rfl, h.at (i := 1) rfl, h.at (i := 2) rfl, h.at (i := 3) rfl, fun i => h.frozen i⟩

theorem vbuild_nil {dims pb wb bb gb rb N : Nat} {A B : List TP} {w : World} (hP : VPs w pb (A ++ ([] ++ B))) (hD : BD w bb wb N rb gb) : VBuildTold dims pb wb bb gb rb N A [] B w (.returned (.pointer none)) w :=
  ⟨_, .nil, rfl, rfl, .nil, List.nodup_nil, fun g hg => (by cases hg), ⟨[], List.Perm.refl _, hP⟩, hD, Mod.refl _ _⟩

theorem vbuild_one {dims pb wb bb gb rb N : Nat} {A B : List TP} {w : World} {p : TP} (hp : p.xs.length = dims) (hP : VPs w pb (A ++ ([p] ++ B))) (hD : BD w bb wb N rb gb) :
    VBuildTold dims pb wb bb gb rb N A [p] B w (.returned (.pointer (some ⟨w.heap.size, 0, none⟩))) (w.alloc (.cells #[.iface 78 (.slice p.A dims p.c), .float .f64 0, .pointer none, .pointer none] 92)) := by
  have hm : ∀ S, Mod S w (w.alloc (.cells #[.iface 78 (.slice p.A dims p.c), .float .f64 0, .pointer none, .pointer none] 92)) := fun S => (Mod.refl _ _).alloc _
  refine ⟨_, .node w.heap.size p 0 .nil .nil, rfl, ⟨rfl, _, _, ?_, rfl, rfl⟩, .one p, by simp [VT.gs], fun g hg => (by simp [VT.gs] at hg; omega), ⟨[p], List.Perm.refl _, hP.mod (hm (fun _ => False)) (fun h => h)⟩, hD.mod (hm (fun _ => False)) (fun h => h) (fun h => h) (fun h => h) (fun h => h), hm _⟩
  unfold vnodeCells TP.iv TP.v
  rw [hp]
  exact Blk.new' _ _ _

/-- What stands ahead of the tree on the closer side. -/
structure VL (dims pb wb bb gb rb N n G : Nat) (A l B qs : List TP) (q : TP) (rest : List TP) (w w2 : World) (a : Value) (r : Nat) (w3 : World) : Prop where
  e : qs = q :: rest
  node : Blk w2 G 92 [a, .float .f64 0, .pointer none, .pointer none]
  vp : VPs w3 pb ((A ++ [q]) ++ ((qs.take (n / 2)).drop 1 ++ (qs.drop (n / 2) ++ B)))
  win : VWin w dims pb wb bb gb qs
  win3 : VWin w3 dims pb wb bb gb qs
  bd : BD w3 bb wb N rb gb
  node3 : Blk w3 G 92 [a, .float .f64 r, .pointer none, .pointer none]
  len : qs.length = n
  gn : ¬ Bz pb wb bb gb G
  gr : G ≠ rb
  mod : Mod (Bz pb wb bb gb) w w2
  gw : w.heap.size ≤ G

theorem vleft {dims pb wb bb gb rb N n r : Nat} {A l B qs : List TP} {w w1 w2 : World} {a : Value} (hn : 2 ≤ n) (hl : l.length = n) (hB : ∀ k, Bz pb wb bb gb k → k < w.heap.size) (hrb : rb < w.heap.size) (hW : VWin w dims pb wb bb gb l) (h01 : Mod (Bz pb wb bb gb) w w1)
    (h12 : Mod (Bz pb wb bb gb) (w1.alloc (.cells #[a, .float .f64 0, .pointer none, .pointer none] 92)) w2) (hq : qs.Perm l) (hP : VPs w2 pb (A ++ (qs ++ B))) (hD : BD w2 bb wb N rb gb) :
    ∃ q rest, VL dims pb wb bb gb rb N n w1.heap.size A l B qs q rest w w2 a r (w2.setCell ⟨w1.heap.size, 1, none⟩ (.float .f64 r)) := by
  have s1 := h01.size
  have hql : qs.length = n := by rw [hq.length_eq, hl]
  obtain ⟨q, rest, e⟩ : ∃ q rest, qs = q :: rest := by
    cases qs with
    | nil => simp at hql; omega
    | cons q rest => exact ⟨q, rest, rfl⟩
  have hGn : ¬ Bz pb wb bb gb w1.heap.size := fun h => by have := hB _ h; omega
  have hGr : w1.heap.size ≠ rb := by omega
  have n2 : Blk w2 w1.heap.size 92 [a, .float .f64 0, .pointer none, .pointer none] := (Blk.new' w1 _ _).mod h12 hGn
  have hmw : Mod (Bz pb wb bb gb) w w2 := (h01.alloc _).trans h12
  have hmG : Mod (fun k => k = w1.heap.size) w2 (w2.setCell ⟨w1.heap.size, 1, none⟩ (.float .f64 r)) := (Mod.refl (fun k => k = w1.heap.size) w2).set (p := ⟨w1.heap.size, 1, none⟩) (.inl rfl) _
  have hmw3 : Mod (Bz pb wb bb gb) w (w2.setCell ⟨w1.heap.size, 1, none⟩ (.float .f64 r)) := hmw.set (.inr s1) _
  refine ⟨q, rest, e, n2, ?_, hW.sub (fun p hp => hq.mem_iff.1 hp), (hW.sub (fun p hp => hq.mem_iff.1 hp)).mod hmw3, hD.set _ ⟨fun h => hGn (.inr (.inr (.inl h))), fun h => hGn (.inr (.inl h)), hGr, fun h => hGn (.inr (.inr (.inr h)))⟩, n2.set 1 _, hql, hGn, hGr, hmw, s1⟩
  · rw [← vwin_left e (by omega)]
    exact hP.mod hmG (fun h => hGn (.inl h.symm))

/-- What stands ahead of the tree on the further side. -/
theorem vright {dims pb wb bb gb rb N n G r : Nat} {A l B qs rest l1 : List TP} {q : TP} {w w2 w4 : World} {a v1 : Value} (hn : 2 ≤ n) (h : VL dims pb wb bb gb rb N n G A l B qs q rest w w2 a r (w2.setCell ⟨G, 1, none⟩ (.float .f64 r))) (h1 : l1.Perm ((qs.take (n / 2)).drop 1))
    (hP : VPs w4 pb ((A ++ [q]) ++ (l1 ++ (qs.drop (n / 2) ++ B)))) (hD : BD w4 bb wb N rb gb) (hm : Mod (Bz pb wb bb gb) (w2.setCell ⟨G, 1, none⟩ (.float .f64 r)) w4) :
    Blk w4 G 92 [a, .float .f64 r, .pointer none, .pointer none] ∧ Blk (w4.setCell ⟨G, 2, none⟩ v1) G 92 [a, .float .f64 r, v1, .pointer none] ∧ VPs (w4.setCell ⟨G, 2, none⟩ v1) pb ((A ++ [q] ++ l1) ++ (qs.drop (n / 2) ++ B)) ∧ VWin (w4.setCell ⟨G, 2, none⟩ v1) dims pb wb bb gb qs ∧ BD (w4.setCell ⟨G, 2, none⟩ v1) bb wb N rb gb ∧ (A ++ [q] ++ l1).length = A.length + n / 2 := by
  have n4 := h.node3.mod hm h.gn
  have hmG : Mod (fun k => k = G) w4 (w4.setCell ⟨G, 2, none⟩ v1) := (Mod.refl (fun k => k = G) w4).set (p := ⟨G, 2, none⟩) (.inl rfl) _
  have hll : l1.length = n / 2 - 1 := by rw [h1.length_eq, List.length_drop, List.length_take, h.len]; omega
  have hmw : Mod (Bz pb wb bb gb) w (w4.setCell ⟨G, 2, none⟩ v1) := ((h.mod.set (p := ⟨G, 1, none⟩) (.inr h.gw) _).trans hm).set (p := ⟨G, 2, none⟩) (.inr h.gw) _
  refine ⟨n4, n4.set 2 _, ?_, h.win.mod hmw, hD.set _ ⟨fun e => h.gn (.inr (.inr (.inl e))), fun e => h.gn (.inr (.inl e)), h.gr, fun e => h.gn (.inr (.inr (.inr e)))⟩, by simp; omega⟩
  rw [← vwin_right]
  exact hP.mod hmG (fun e => h.gn (.inl e.symm))

set_option maxRecDepth 100000 in
set_option maxHeartbeats 8000000 in
theorem vbuild_at (dims pb wb bb gb rb N : Nat) (hdm : dims ≤ 4) (hN : N ≤ 200) (fuel : Nat) :
    ∀ (w : World) (n c o : Nat) (A l B : List TP), l.length = n → n ≤ fuel → n ≤ N → o = A.length → VPs w pb (A ++ (l ++ B)) → VWin w dims pb wb bb gb l → BD w bb wb N rb gb → (A ++ (l ++ B)).length ≤ 1099511627776 → n ≤ c → c ≤ 9223372036854775807 →
      Calls Tryd.prog 59 #[.pointer (some ⟨bb, 0, none⟩), .slice (some ⟨pb, o, none⟩) n c, .int .i64 1] w (VBuildTold dims pb wb bb gb rb N A l B w) := by
  induction fuel with
  | zero =>
    intro w n c o A l B hl hf hnN ho hP hW hD hlen hc hc2
    obtain rfl : n = 0 := by omega
    obtain rfl := List.length_eq_zero_iff.1 hl
    have HK := Lib.hid (And.intro hP hD)
    clear hl hP hW hD hlen
    go_enter Tryd.func59, Tryd.ntmps59
    go_wp2_with fail
    go_ret
    exact vbuild_nil HK.out.1 HK.out.2
  | succ fuel ih =>
    intro w n c o A l B hl hf hnN ho hP hW hD hlen hc hc2
    subst ho
    by_cases hn0 : n = 0
    · subst hn0
      obtain rfl := List.length_eq_zero_iff.1 hl
      have HK := Lib.hid (And.intro hP hD)
      clear hl hP hW hD hlen ih
      go_enter Tryd.func59, Tryd.ntmps59
      go_wp2_with fail
      go_ret
      exact vbuild_nil HK.out.1 HK.out.2
    by_cases hn1 : n = 1
    · subst hn1
      obtain ⟨p, rfl⟩ := List.length_eq_one_iff.1 hl
      have hpl := (hW p (by simp)).1.1
      have c0 : w.cell? ⟨pb, A.length, none⟩ = some (.iface 78 (.slice p.A dims p.c)) := by
        have := hP.at (i := A.length) (p := p) (by simp)
        unfold TP.iv TP.v at this
        rw [hpl] at this
        exact this
      have HK := Lib.hid (And.intro hP (And.intro hD hpl))
      have hlt := hP.lt
      clear hl hP hW hD hlen ih hpl
      go_enter Tryd.func59, Tryd.ntmps59
      go_wp2_with fail
      go_ret
      exact vbuild_one HK.out.2.2 HK.out.1 HK.out.2.1
    have hn2 : 2 ≤ n := by omega
    have HSEL := Lib.hid (select_at w dims pb wb bb gb rb N n c A l B hP hl (by omega) (by omega) hD (fun p hp => (hW p hp).1))
    have HBz : Hid (∀ k, Bz pb wb bb gb k → k < w.heap.size) := fun k hk => bz_lt hP hD hk
    have HRB : Hid (rb < w.heap.size) := by obtain ⟨_, _, hr⟩ := hD.rnd; exact hr.2.2.lt
    have HIH := Lib.hid ih
    have HLN : Hid (∀ (qs : List TP) (q : TP) (rest : List TP), qs = q :: rest → qs.Perm l → ((A ++ [q]) ++ ((qs.take (n / 2)).drop 1 ++ (qs.drop (n / 2) ++ B))).length ≤ 1099511627776 ∧ ∀ l1 : List TP, l1.Perm ((qs.take (n / 2)).drop 1) → ((A ++ [q] ++ l1) ++ (qs.drop (n / 2) ++ B)).length ≤ 1099511627776) := by
      intro qs q rest e hq
      have e1 : (A ++ (qs ++ B)).length ≤ 1099511627776 := by
        rw [List.length_append, List.length_append, hq.length_eq, ← List.length_append, ← List.length_append]; exact hlen
      rw [vwin_left e (by omega : 0 < n / 2)] at e1
      refine ⟨e1, fun l1 h1 => ?_⟩
      have h2 := h1.length_eq
      simp only [List.length_append] at e1 ⊢
      omega
    have hA : A.length + n ≤ 1099511627776 := by rw [List.length_append, List.length_append, hl] at hlen; omega
    have HPT : Hid (∀ (v : TP) (w1 : World), v ∈ l → VPs w1 pb (A ++ (l ++ B)) → BD w1 bb wb N rb gb → Mod (Bz pb wb bb gb) w w1 → Calls Tryd.prog 66 #[.pointer (some ⟨bb, 0, none⟩), .iface 78 (.slice v.A dims v.c), .slice (some ⟨pb, A.length, none⟩) n c] (w1.alloc (.cells #[.iface 78 (.slice v.A dims v.c), .float .f64 0, .pointer none, .pointer none] 92)) (PartTold dims pb wb bb gb rb N n c v A l B (w1.alloc (.cells #[.iface 78 (.slice v.A dims v.c), .float .f64 0, .pointer none, .pointer none] 92)))) := by
      intro v w1 hv h1 h2 h3
      have hm : Mod (fun _ => False) w1 (w1.alloc (.cells #[.iface 78 (.slice v.A dims v.c), .float .f64 0, .pointer none, .pointer none] 92)) := (Mod.refl _ _).alloc _
      exact vpartition_at _ dims pb wb bb gb rb N n c v A l B (h1.mod hm (fun h => h)) hl hn2 hnN hN hA hc hc2 (hW.mod (h3.alloc _)) hv (h2.mod hm (fun h => h) (fun h => h) (fun h => h) (fun h => h)) hdm
    have tok1 : True := trivial
    have HK := Lib.hid (And.intro hl (And.intro hW hlen))
    have z0 : (1 : Int) < n := by omega
    clear hl hP hW hD hlen ih hn0 hn1
    go_enter Tryd.func59, Tryd.ntmps59
    go_wp2_with (first
      | (go_at_call 65; refine HSEL.out.mono ?_; rintro _ w1 ⟨v, hv, rfl, p1, p2, p3⟩; have HS := Lib.hid (And.intro hv (And.intro p1 (And.intro p2 p3))); clear hv p1 p2 p3)
      | (go_at_call 66; refine (HPT.out v w1 HS.out.1 HS.out.2.1 HS.out.2.2.1 HS.out.2.2.2).mono ?_; rintro _ w2 ⟨r, qs, m, rfl, p1, p2, p3, p4, p5, p6, p7⟩; obtain ⟨q, rest, hL⟩ := vleft (r := r) hn2 HK.out.1 HBz.out HRB.out HK.out.2.1 HS.out.2.2.2 p7 p1 p5 p6; obtain ⟨x0, x1, x2, x3, xf⟩ := vnode_cells hL.node; have f1 := xf 1; have HP := Lib.hid (And.intro p1 (And.intro p2 (And.intro p3 (And.intro p4 (And.intro p7 hL))))); clear p1 p2 p3 p4 p5 p6 p7 hL xf)
      | (go_at_call 59; have _t := tok1; clear _t tok1; have hL := HP.out.2.2.2.2.2; refine (HIH.out _ (n / 2 - 1) (c - 1) (A.length + 1) (A ++ [q]) ((qs.take (n / 2)).drop 1) (qs.drop (n / 2) ++ B) (by rw [List.length_drop, List.length_take, hL.len]; omega) (by omega) (by omega) (by simp) hL.vp (hL.win3.sub (fun p hp => List.mem_of_mem_take (List.mem_of_mem_drop hp))) hL.bd (HLN.out qs q rest hL.e HP.out.1).1 (by omega) (by omega)).mono ?_; rintro _ w4 ⟨v1, t1, rfl, a1, a2, a3, a4, ⟨l1, a5, a6⟩, a7, a8⟩; obtain ⟨ql, rfl⟩ := a1.ptr; have hR := vright (v1 := .pointer ql) hn2 hL a5 a6 a7 a8; obtain ⟨y0, y1, y2, y3, yf⟩ := vnode_cells hR.1; have f2 := yf 2; have HQ := Lib.hid (And.intro hR (And.intro a1 (And.intro a2 (And.intro a3 (And.intro a4 (And.intro a5 (And.intro a7 a8))))))); clear hL hR a1 a2 a3 a4 a5 a6 a7 a8 yf)
      | (go_at_call 59; have hL := HP.out.2.2.2.2.2; have hR := HQ.out.1; refine (HIH.out _ (n - n / 2) (c - n / 2) (A.length + n / 2) (A ++ [q] ++ l1) (qs.drop (n / 2)) B (by rw [List.length_drop, hL.len]) (by omega) (by omega) hR.2.2.2.2.2.symm hR.2.2.1 (hR.2.2.2.1.sub (fun p hp => List.mem_of_mem_drop hp)) hR.2.2.2.2.1 ((HLN.out qs q rest hL.e HP.out.1).2 l1 HQ.out.2.2.2.2.2.1) (by omega) (by omega)).mono ?_; rintro _ w6 ⟨v2, t2, rfl, b1, b2, b3, b4, ⟨l2, b5, b6⟩, b7, b8⟩; obtain ⟨qr, rfl⟩ := b1.ptr; obtain ⟨z0', z1', z2', z3', zf⟩ := vnode_cells (hR.2.1.mod b8 hL.gn); have f3 := zf 3; have HT := Lib.hid (And.intro b1 (And.intro b2 (And.intro b3 (And.intro b4 (And.intro b5 (And.intro b6 (And.intro b7 b8))))))); clear hL hR b1 b2 b3 b4 b5 b6 b7 b8 zf))
    go_ret
    have hL := HP.out.2.2.2.2.2
    exact vbuild_end hn2 HK.out.1 HBz.out HS.out.2.2.2 rfl HS.out.1 (by have := HP.out.2.2.2.2.1; unfold TP.iv TP.v; rw [(HK.out.2.1 v HS.out.1).1.1]; exact this) HP.out.1 HP.out.2.1 HP.out.2.2.1 HP.out.2.2.2.1 hL.e HQ.out.2.2.2.2.2.2.2 HQ.out.2.1 HQ.out.2.2.1 HQ.out.2.2.2.1 HQ.out.2.2.2.2.1 HQ.out.2.2.2.2.2.1 HT.out.2.2.2.2.2.2.2 HT.out.1 HT.out.2.1 HT.out.2.2.1 HT.out.2.2.2.1 HT.out.2.2.2.2.1 HT.out.2.2.2.2.2.1 HT.out.2.2.2.2.2.2.1 HRB.out
end Go.Proofs.YtpamoleocjdjiaaDoor

namespace Go.Proofs.YtpamoleocjdjiaaDoor
open Go.RowKit Lox
set_option linter.unusedVariables false
attribute [local go_sem] run_store_flt run_store_fn
attribute [local go_sem ↓] Go.wp_at_zero Go.wp_at_succ

theorem catch_new (p q : Addr) (w : World) :
    CallsD Tryd.prog 58 #[.pointer (some p), .pointer (some q)] .returning w fun e u' w' => e = .returned (.tuple #[]) ∧ u' = .returning ∧ w' = w := by
  refine callsD_of_wpS Tryd.func58 rfl fun c₀ cs hu => ?_
  apply wpS_seq
  apply wpS_region
  simp [wpOpsS, go_sem, recoverD, hu, Tryd.ntmps58, Exit.thenS]
  refine wpS_of_wp ?_
  go_wp2_with fail
  cases c₀
  simp_all [bodyPostS, results, Tryd.results58]

theorem newpcg_at (w : World) (hi lo : Nat) (h1 : hi < 18446744073709551616) (h2 : lo < 18446744073709551616) :
    Calls Tryd.prog 44 #[.int .u64 hi, .int .u64 lo] w fun e w' => e = .returned (.pointer (some ⟨w.heap.size, 0, none⟩)) ∧ Gen w' w.heap.size hi lo ∧ w' = w.alloc (.cells #[.int .u64 hi, .int .u64 lo] 122) := by
  go_enter Tryd.func44, Tryd.ntmps44
  go_wp2
  go_ret
  exact ⟨rfl, ⟨⟨h1, h2⟩, Blk.new' _ _ _⟩, rfl⟩

theorem rnew_at (w : World) (gb : Nat) :
    Calls Tryd.prog 55 #[.iface 89 (.pointer (some ⟨gb, 0, none⟩))] w fun e w' => e = .returned (.pointer (some ⟨w.heap.size, 0, none⟩)) ∧ w' = w.alloc (.cells #[.iface 89 (.pointer (some ⟨gb, 0, none⟩))] 133) := by
  go_enter Tryd.func55, Tryd.ntmps55
  go_wp2
  go_ret
  exact ⟨rfl, rfl⟩

theorem made_flts (n : Nat) : (madeCells (Value.float .f64 0).cells (n * 1)).toList = flts (List.replicate n 0) := by
  apply List.ext_getElem?
  intro i
  simp [madeCells, Value.cells, flts, List.getElem?_replicate]
  by_cases hi : i < n <;> simp [hi]
  simp [Nat.mod_one]

/-- What New tells. -/
def VNewTold (dims pb gb n : Nat) (l : List TP) (w : World) (e : Ending) (w' : World) : Prop :=
  ∃ (tb : Nat) (v : Value) (vt : VT), e = .returned (.tuple #[.pointer (some ⟨tb, 0, none⟩), .nilIface]) ∧ Blk w' tb 67 [v, .int .i64 n] ∧ vt.In w' v ∧ VB.Built (vsq dims) l vt.T ∧ vt.gs.Nodup ∧ (∀ g ∈ vt.gs, w.heap.size ≤ g) ∧ w.heap.size ≤ tb ∧ tb ∉ vt.gs ∧ Mod (fun k => k = pb ∨ k = gb) w w'

theorem new_init (w : World) (H n gb : Nat) (hH : w.heap.size = H) (C : Array Value) : ∃ W, W = (((((w.alloc (.cells #[.pointer none] 56)).alloc (.cells #[.nilIface] 58)).alloc (.cells #[.iface 89 (.pointer (some ⟨gb, 0, none⟩))] 133)).alloc (.cells C 27)).alloc
      (.cells #[.slice (some ⟨H + 1 + 1 + 1, 0, none⟩) n n, .func (Fn.func 56) #[.pointer (some ⟨H + 1 + 1, 0, none⟩)] #[], .func (Fn.func 57) #[.pointer (some ⟨H + 1 + 1, 0, none⟩)] #[]] 119)) ∧ W.heap.size = H + 5 ∧ Mod (fun _ => False) w W ∧
    Blk W H 56 [.pointer none] ∧ Blk W (H + 1) 58 [.nilIface] ∧ Blk W (H + 1 + 1) 133 [.iface 89 (.pointer (some ⟨gb, 0, none⟩))] ∧ Blk W (H + 1 + 1 + 1) 27 C.toList ∧ Blk W (H + 1 + 1 + 1 + 1) 119 (bldCells (H + 1 + 1 + 1) n n (H + 1 + 1)) := by
  have hs : ∀ (w : World) (o : Obj) (k : Nat), w.heap.size = k → (w.alloc o).heap.size = k + 1 := fun w o k h => by rw [World.size_alloc, h]
  have nb : ∀ (w : World) (k : Nat) (c : Array Value) (T : TypeId), w.heap.size = k → Blk (w.alloc (.cells c T)) k T c.toList := fun w k c T h => by subst h; exact Blk.new' w c T
  have s1 := hs w (.cells #[.pointer none] 56) H hH
  have s2 := hs _ (.cells #[.nilIface] 58) _ s1
  have s3 := hs _ (.cells #[.iface 89 (.pointer (some ⟨gb, 0, none⟩))] 133) _ s2
  have s4 := hs _ (.cells C 27) _ s3
  refine ⟨_, rfl, hs _ _ _ s4, (((((Mod.refl _ _).alloc _).alloc _).alloc _).alloc _).alloc _, ?_, ?_, ?_, ?_, ?_⟩
  · exact ((((nb w H _ _ hH).alloc _).alloc _).alloc _).alloc _
  · exact (((nb _ _ _ _ s1).alloc _).alloc _).alloc _
  · exact ((nb _ _ _ _ s2).alloc _).alloc _
  · exact (nb _ _ _ _ s3).alloc _
  · exact nb _ _ _ _ s4

/-- What stands ahead of build. -/
theorem new_ready {w W : World} {dims pb gb n hi lo H : Nat} {l : List TP} {C : Array Value} (hH : w.heap.size = H) (hdm : 0 < dims) (hC : C = madeCells (Value.float .f64 0).cells (n * 1)) (hm : Mod (fun _ => False) w W) (h2 : Blk W (H + 1 + 1) 133 [.iface 89 (.pointer (some ⟨gb, 0, none⟩))])
    (h3 : Blk W (H + 1 + 1 + 1) 27 C.toList) (h4 : Blk W (H + 1 + 1 + 1 + 1) 119 (bldCells (H + 1 + 1 + 1) n n (H + 1 + 1))) (hP : VPs w pb l) (hW : ∀ p ∈ l, p.Ok w dims ∧ p.Gr ∧ ∀ b o, p.A = some ⟨b, o, none⟩ → b ≠ pb ∧ b ≠ gb) (hG : Gen w gb hi lo) :
    VPs W pb ([] ++ (l ++ [])) ∧ VWin W dims pb (H + 1 + 1 + 1) (H + 1 + 1 + 1 + 1) gb l ∧ BD W (H + 1 + 1 + 1 + 1) (H + 1 + 1 + 1) n (H + 1 + 1) gb := by
  have hgl := hG.2.lt
  refine ⟨by rw [List.nil_append, List.append_nil]; exact hP.mod hm (fun h => h), fun p hp => ⟨(hW p hp).1.apart hm (fun _ _ _ h => h), (hW p hp).2.1, fun b o e hb => ?_⟩, ⟨⟨n, Nat.le_refl _, h4⟩, ⟨List.replicate n 0, by simp, [], by rw [List.append_nil, ← made_flts, ← hC]; exact h3⟩, hi, lo, by omega, ⟨hG.1, hG.2.mod hm (fun h => h)⟩, h2⟩⟩
  have hlt : b < w.heap.size := ((hW p hp).1.2.far (by omega)) (by rw [(hW p hp).1.1]; exact hdm) b o e
  obtain ⟨g1, g2⟩ := (hW p hp).2.2 b o e
  rcases hb with h | h | h | h
  · exact g1 h
  · omega
  · omega
  · exact g2 h

/-- What New tells, behind all. -/
theorem new_told {w W w6 : World} {dims pb gb n H : Nat} {l : List TP} {v : Value} {vt : VT} (hH : w.heap.size = H) (hs : W.heap.size = H + 5) (hm : Mod (fun _ => False) w W) (a1 : vt.In w6 v) (a2 : VB.Built (vsq dims) l vt.T) (a3 : vt.gs.Nodup) (a4 : ∀ g ∈ vt.gs, W.heap.size ≤ g) (a8 : Mod (Bz pb (H + 1 + 1 + 1) (H + 1 + 1 + 1 + 1) gb) W w6) :
    VNewTold dims pb gb n l w (.returned (.tuple #[.pointer (some ⟨w6.heap.size, 0, none⟩), .nilIface])) ((((w6.setCell ⟨H, 0, none⟩ (.pointer (some ⟨w6.heap.size, 0, none⟩))).setCell ⟨H, 0, none⟩ (.pointer (some ⟨w6.heap.size, 0, none⟩))).setCell ⟨H + 1, 0, none⟩ .nilIface).alloc (.cells #[v, .int .i64 n] 67)) := by
  have hlt := a1.lt
  have s6 := a8.size
  have hmw : Mod (fun k => k = pb ∨ k = gb) w w6 := (hm.mono (S' := fun k => k = pb ∨ k = gb) (fun _ _ h => h.elim)).trans' a8 fun k hk h => by
    rcases h with h | h | h | h
    · exact .inl h
    · omega
    · omega
    · exact .inr h
  have hst : Mod (fun k => k = H ∨ k = H + 1) w6 ((((w6.setCell ⟨H, 0, none⟩ (.pointer (some ⟨w6.heap.size, 0, none⟩))).setCell ⟨H, 0, none⟩ (.pointer (some ⟨w6.heap.size, 0, none⟩))).setCell ⟨H + 1, 0, none⟩ .nilIface).alloc (.cells #[v, .int .i64 n] 67)) :=
    ((((Mod.refl _ _).set (p := ⟨H, 0, none⟩) (.inl (.inl rfl)) _).set (p := ⟨H, 0, none⟩) (.inl (.inl rfl)) _).set (p := ⟨H + 1, 0, none⟩) (.inl (.inr rfl)) _).alloc _
  refine ⟨w6.heap.size, v, vt, rfl, ?_, a1.mod hst (fun k hk h => by have := a4 k hk; omega), a2, a3, fun g hg => by have := a4 g hg; omega, by omega, fun h => by have := hlt _ h; omega, ?_⟩
  · have h1 := Blk.new' (((w6.setCell ⟨H, 0, none⟩ (.pointer (some ⟨w6.heap.size, 0, none⟩))).setCell ⟨H, 0, none⟩ (.pointer (some ⟨w6.heap.size, 0, none⟩))).setCell ⟨H + 1, 0, none⟩ .nilIface) #[v, .int .i64 n] 67
    have e : (((w6.setCell ⟨H, 0, none⟩ (.pointer (some ⟨w6.heap.size, 0, none⟩))).setCell ⟨H, 0, none⟩ (.pointer (some ⟨w6.heap.size, 0, none⟩))).setCell ⟨H + 1, 0, none⟩ .nilIface).heap.size = w6.heap.size := by simp [World.setCell]
    rw [e] at h1
    exact h1
  · exact (((hmw.set (p := ⟨H, 0, none⟩) (.inr (by show w.heap.size ≤ H; omega)) _).set (p := ⟨H, 0, none⟩) (.inr (by show w.heap.size ≤ H; omega)) _).set (p := ⟨H + 1, 0, none⟩) (.inr (by show w.heap.size ≤ H + 1; omega)) _).alloc _

theorem new_cells {w6 : World} {H T0 T1 : Nat} {u v a : Value} {o : Obj} (h0 : Blk w6 H T0 [u]) (h1 : Blk w6 (H + 1) T1 [v]) : ((((w6.setCell ⟨H, 0, none⟩ a).setCell ⟨H, 0, none⟩ a).setCell ⟨H + 1, 0, none⟩ .nilIface).alloc o).cell? ⟨H, 0, none⟩ = some a ∧ ((((w6.setCell ⟨H, 0, none⟩ a).setCell ⟨H, 0, none⟩ a).setCell ⟨H + 1, 0, none⟩ .nilIface).alloc o).cell? ⟨H + 1, 0, none⟩ = some .nilIface := by
  have e0 := ((((h0.set 0 a).set 0 a).other (a := ⟨H + 1, 0, none⟩) .nilIface (by show H + 1 ≠ H; omega)).alloc o).at (i := 0) rfl
  have e1 := ((((h1.other (a := ⟨H, 0, none⟩) a (by show H ≠ H + 1; omega)).other (a := ⟨H, 0, none⟩) a (by show H ≠ H + 1; omega)).set 0 .nilIface).alloc o).at (i := 0) rfl
  exact ⟨e0, e1⟩

set_option maxHeartbeats 4000000 in
theorem vnew_at (w : World) (dims pb gb n c hi lo : Nat) (l : List TP) (hl : l.length = n) (hn : 0 < n) (hN : n ≤ 200) (hc : n ≤ c) (hc2 : c ≤ 9223372036854775807) (hdm : 0 < dims ∧ dims ≤ 4) (hP : VPs w pb l) (hW : ∀ p ∈ l, p.Ok w dims ∧ p.Gr ∧ ∀ b o, p.A = some ⟨b, o, none⟩ → b ≠ pb ∧ b ≠ gb) (hG : Gen w gb hi lo) :
    Calls Tryd.prog 43 #[.slice (some ⟨pb, 0, none⟩) n c, .int .i64 1, .iface 89 (.pointer (some ⟨gb, 0, none⟩))] w (VNewTold dims pb gb n l w) := by
  have hmf : ∀ (fn : Fn) (first cap : Array Value) (w : World), (Instr.makeFunc fn first cap).run Tryd.prog w = .ok (.func fn first cap) w := fun _ _ _ _ => rfl
  obtain ⟨i0, hi0, hz0, hz1, hz2⟩ := info_parts info_f64
  have hmk : ∀ w : World, (Instr.makeSlice 26 (.int .i64 (n : Int)) (.int .i64 (n : Int))).run Tryd.prog w = .ok (.slice (some ⟨w.heap.size, 0, none⟩) n n) (w.alloc (.cells (madeCells (Value.float .f64 0).cells (n * 1)) 27)) := fun w => by
    have := run_make (P := Tryd.prog) w 26 27 i0 _ Tryd.underlying26 hi0 hz0 .i64 .i64 (n : Int) (n : Int) (by omega) (by omega) (by rw [hz2]; omega) (by omega)
    rw [hz1] at this
    exact this
  clear hi0 hz0 hz1 hz2
  obtain ⟨C, hC⟩ : ∃ C, C = madeCells (Value.float .f64 0).cells (n * 1) := ⟨_, rfl⟩
  rw [← hC] at hmk
  obtain ⟨H, hH⟩ : ∃ H, w.heap.size = H := ⟨_, rfl⟩
  obtain ⟨W, eW, zW, mW, q0, q1, q2, q3, q4⟩ := new_init w H n gb hH C
  have hR := new_ready hH hdm.1 hC mW q2 q3 q4 hP hW hG
  have HB := Lib.hid (vbuild_at dims pb (H + 1 + 1 + 1) (H + 1 + 1 + 1 + 1) gb (H + 1 + 1) n hdm.2 hN n W n c 0 [] l [] hl (Nat.le_refl _) (Nat.le_refl _) rfl hR.1 hR.2.1 hR.2.2 (by simp [hl]; omega) hc hc2)
  have hne : ∀ k, Bz pb (H + 1 + 1 + 1) (H + 1 + 1 + 1 + 1) gb k → k ≠ H ∧ k ≠ H + 1 := by
    have h1 := hP.lt
    have h2 := hG.2.lt
    rintro k (h | h | h | h) <;> omega
  have HN := Lib.hid hne
  have HEW := Lib.hid eW
  have HZ := Lib.hid (And.intro hH (And.intro zW (And.intro mW (And.intro q0 q1))))
  clear hl hP hW hG hC eW zW mW q0 q1 q2 q3 q4 hR hne
  go_enter_defers Tryd.func43, Tryd.ntmps43
  go_wp2_with (first
    | (go_at_call 55; refine (rnew_at _ gb).mono ?_; rintro _ _ ⟨rfl, rfl⟩)
    | (go_at_call 59; go_loud (rw [← HEW.out]; refine HB.out.mono ?_; rintro _ w6 ⟨v, vt, rfl, a1, a2, a3, a4, -, -, a8⟩; obtain ⟨qv, rfl⟩ := a1.ptr; have b0 := (HZ.out.2.2.2.1.mod a8 (fun h => (HN.out _ h).1 rfl)); have b1 := (HZ.out.2.2.2.2.mod a8 (fun h => (HN.out _ h).2 rfl)); have y0 := b0.at (i := 0) rfl; have y1 := b1.at (i := 0) rfl; have f0 := b0.frozen 0; have f1 := b1.frozen 0; have hlt := b1.lt; have hlt0 := b0.lt; have hlw : H ≠ w6.heap.size := Nat.ne_of_lt hlt0; have hlw1 : H + 1 ≠ w6.heap.size := Nat.ne_of_lt hlt; have HA := Lib.hid (And.intro a1 (And.intro a2 (And.intro a3 (And.intro a4 (And.intro a8 (And.intro b0 b1)))))); clear a1 a2 a3 a4 a8 b0 b1)))
  refine leaves_cons (f := 58) (args := #[.pointer (some ⟨H, 0, none⟩), .pointer (some ⟨H + 1, 0, none⟩)]) (by simp) (by simp [go_sem]) ?_
  refine (catch_new ⟨H, 0, none⟩ ⟨H + 1, 0, none⟩ _).mono ?_
  rintro e u' w'' ⟨rfl, rfl, rfl⟩
  obtain ⟨r0, r1⟩ := new_cells (a := .pointer (some ⟨w6.heap.size, 0, none⟩)) (o := .cells #[.pointer qv, .int .i64 n] 67) HA.out.2.2.2.2.2.1 HA.out.2.2.2.2.2.2
  have hfin := new_told (n := n) HZ.out.1 HZ.out.2.1 HZ.out.2.2.1 HA.out.1 HA.out.2.1 HA.out.2.2.1 HA.out.2.2.2.1 HA.out.2.2.2.2.1
  simp [Leaves, settle, results, Tryd.results43, go_sem, r0, r1]
  exact hfin

/-- What DoorDrawn tells. -/
def DrTold (dims pb n : Nat) (l : List TP) (w : World) (e : Ending) (w' : World) : Prop :=
  ∃ (tb : Nat) (v : Value) (vt : VT), e = .returned (.tuple #[.pointer (some ⟨tb, 0, none⟩), .nilIface]) ∧ Blk w' tb 67 [v, .int .i64 n] ∧ vt.In w' v ∧ VB.Built (vsq dims) l vt.T ∧ vt.gs.Nodup ∧ (∀ g ∈ vt.gs, w.heap.size ≤ g) ∧ w.heap.size ≤ tb ∧ tb ∉ vt.gs ∧ Mod (fun k => k = pb) w w'

set_option maxHeartbeats 4000000 in
theorem drawn_at (w : World) (dims pb n c hi lo : Nat) (l : List TP) (hl : l.length = n) (hn : 0 < n) (hN : n ≤ 200) (hc : n ≤ c) (hc2 : c ≤ 9223372036854775807) (hdm : 0 < dims ∧ dims ≤ 4) (hP : VPs w pb l) (hW : ∀ p ∈ l, p.Ok w dims ∧ p.Gr ∧ ∀ b o, p.A = some ⟨b, o, none⟩ → b ≠ pb) (h1 : hi < 18446744073709551616) (h2 : lo < 18446744073709551616) :
    Calls Tryd.prog 23 #[.slice (some ⟨pb, 0, none⟩) n c, .int .u64 hi, .int .u64 lo] w (DrTold dims pb n l w) := by
  have hm : Mod (fun _ => False) w (w.alloc (.cells #[.int .u64 hi, .int .u64 lo] 122)) := (Mod.refl _ _).alloc _
  have HN := Lib.hid (fun (hG : Gen (w.alloc (.cells #[.int .u64 hi, .int .u64 lo] 122)) w.heap.size hi lo) => vnew_at (w.alloc (.cells #[.int .u64 hi, .int .u64 lo] 122)) dims pb w.heap.size n c hi lo l hl hn hN hc hc2 hdm (hP.mod hm (fun h => h)) (fun p hp => ⟨(hW p hp).1.apart hm (fun _ _ _ h => h), (hW p hp).2.1, fun b o e => ⟨(hW p hp).2.2 b o e, fun h => by
    have hlt : b < w.heap.size := ((hW p hp).1.2.far (by omega)) (by rw [(hW p hp).1.1]; exact hdm.1) b o e
    omega⟩⟩) hG)
  clear hl hP hW
  go_enter Tryd.func23, Tryd.ntmps23
  go_wp2_with (first
    | (go_at_call 44; refine (newpcg_at w hi lo h1 h2).mono ?_; rintro _ _ ⟨rfl, hG, rfl⟩; have HG := Lib.hid hG; clear hG)
    | (go_at_call 43; refine (HN.out HG.out).mono ?_; rintro _ w2 ⟨tb, v, vt, rfl, a1, a2, a3, a4, a5, a6, a7, a8⟩; have HA := Lib.hid (And.intro a1 (And.intro a2 (And.intro a3 (And.intro a4 (And.intro a5 (And.intro a6 (And.intro a7 a8))))))); clear a1 a2 a3 a4 a5 a6 a7 a8))
  go_ret2
  obtain ⟨a1, a2, a3, a4, a5, a6, a7, a8⟩ := HA.out
  rw [World.size_alloc] at a5 a6
  refine ⟨tb, v, vt, rfl, a1, a2, a3, a4, fun g hg => by have := a5 g hg; omega, by omega, a7, (hm.mono (S' := fun k => k = pb) (fun _ _ h => h.elim)).trans' a8 fun k hk h => ?_⟩
  rcases h with h | h
  · exact h
  · omega
end Go.Proofs.YtpamoleocjdjiaaDoor
