/- Steps of a proof, one behind another: The walk of FnTkNearest: it answers true, and what came in is as it was. Conditions: none on the numbers. What the walk of FnTkRoad asks of its callees. The walk of FnTkRoad: it answers true, and what came in is as it was. Conditions: none on the numbers. The walk of FnTkRoad where all is small and there are points. Conditions: as each theorem says. -/
import Derived.Test.YtmeooadgdagiiaaMr20

namespace Go.Proofs.Ytmeooadgdagiiaa
open Go.RowKit Lox
set_option linter.unusedVariables false
attribute [local go_sem] run_store_flt run_store_fn

theorem flat_bare : ∀ (mt : MT) (i : Nat), mt.bare → ∀ x ∈ mt.flat i, x.mn = [] := by
  intro mt
  induction mt with
  | nil => intro i _ x hx; cases hx
  | node g p d bx l r ihl ihr =>
    intro i hb x hx
    obtain ⟨rfl, h1, h2⟩ := hb
    simp only [MT.flat] at hx
    rcases List.mem_cons.1 hx with rfl | hx
    · rfl
    · rcases List.mem_append.1 hx with hx | hx
      · exact ihl _ h1 x hx
      · exact ihr _ h2 x hx

/-- The tree that KBuild tells, as the searches want it. -/
structure Grown (dims : Nat) (all : List TP) (mt : MT) (rs : List KR) : Prop where
  seg : Seg rs mt 0
  box : ∀ x ∈ rs, x.mn.xs = [] ∨ (x.mn.xs.length = dims ∧ x.mx.xs.length = dims)
  some : mt ≠ .nil
  pts : (mt.pts.map TP.xs).Perm (all.map TP.xs)
  good : ∀ p ∈ mt.pts, p.xs.length = dims ∧ p.Gr
  ord : mt.T.Ord leB
  each : mt.T.Each (fun _ d => d < dims)

theorem grown_of {dims n m : Nat} {ps ins qs is : List TP} {ks : List Nat} {mt : MT} {rs : List KR} (hd : 0 < dims) (hn : ps.length = n) (hm : ins.length = m) (hN : 0 < n + m) (hall : ∀ p ∈ ps ++ ins, p.xs.length = dims ∧ p.Gr) (hr : rs.map KR.plain = mt.flat 0) (hT : mt.T = KB.inss leB dims (KB.build leB dims n qs ks 0).1 is) (hb : mt.bare) (hqs : qs.map TP.xs = ps.map TP.xs) (his : is.map TP.xs = ins.map TP.xs) : Grown dims (ps ++ ins) mt rs := by
  have hql : qs.length = n := by have := congrArg List.length hqs; simpa [hn] using this
  have hil : is.length = m := by have := congrArg List.length his; simpa [hm] using this
  obtain ⟨a1, a2, a3⟩ := KB.build_all leB dims hd n qs ks 0 (by omega) hd
  have hp : mt.pts.Perm (qs ++ is) := by
    rw [MT.pts_all, hT]
    exact (KB.inss_perm leB dims is _).trans (a1.append_right is)
  have hx : (mt.pts.map TP.xs).Perm ((ps ++ ins).map TP.xs) := by
    have h := hp.map TP.xs
    rw [List.map_append, hqs, his, ← List.map_append] at h
    exact h
  refine ⟨seg_root hr, fun x hx => .inl ?_, ?_, hx, fun p hp => ?_, by rw [hT]; exact KB.inss_ord leB dims is _ a2, by rw [hT]; exact KB.inss_each leB dims hd is _ a3⟩
  · have h1 : x.plain ∈ mt.flat 0 := by rw [← hr]; exact List.mem_map_of_mem hx
    exact flat_bare mt 0 hb _ h1
  · rintro rfl
    have := hx.length_eq
    simp [MT.pts, hn, hm] at this
    omega
  · have h1 : p.xs ∈ (ps ++ ins).map TP.xs := hx.mem_iff.1 (List.mem_map_of_mem hp)
    obtain ⟨p0, h2, h3⟩ := List.mem_map.1 h1
    obtain ⟨h4, h5⟩ := hall p0 h2
    exact ⟨by rw [← h3]; exact h4, gr_xs h5 h3.symm⟩

/-- The first of the squares is that of what was found. -/
theorem first_want {dims N : Nat} {all : List TP} {qx xs : List Nat} {pts : List (List Nat)} {ws : List Nat} (hN : 0 < N) (hl : ws.length = N) (hp : pts.Perm (all.map TP.xs)) (hx : xs ∈ pts) (hmin : ∀ y ∈ pts, sqx qx xs dims ≤ sqx qx y dims) (hup : Up ws) (hgn : ∀ y ∈ ws, Gn y) (hpm : (ws.map zv).Perm (all.map fun p => sqx p.xs qx dims)) :
    ∃ y0, ws[0]? = some y0 ∧ Gd 0 y0 (sqx xs qx dims) := by
  cases ws with
  | nil => simp at hl; omega
  | cons y0 ws =>
    refine ⟨y0, rfl, ?_⟩
    have hg := zv_gd (hgn y0 (by simp))
    have h1 : zv y0 ∈ (all.map fun p => sqx p.xs qx dims) := hpm.mem_iff.1 (by simp)
    obtain ⟨p1, h2, h3⟩ := List.mem_map.1 h1
    have h4 := hmin p1.xs (hp.mem_iff.2 (List.mem_map_of_mem h2))
    obtain ⟨p2, h5, h6⟩ := List.mem_map.1 (hp.mem_iff.1 hx)
    have h7 : sqx xs qx dims ∈ ((y0 :: ws).map zv) := hpm.mem_iff.2 (List.mem_map.2 ⟨p2, h5, by rw [h6]⟩)
    obtain ⟨y, hy, h8⟩ := List.mem_map.1 h7
    have h9 : zv y0 ≤ zv y := by
      rcases List.mem_cons.1 hy with rfl | hy
      · exact Int.le_refl _
      · exact (List.pairwise_cons.1 hup).1 y hy
    rw [sqx_comm qx xs, sqx_comm qx p1.xs, h3] at h4
    have e : zv y0 = sqx xs qx dims := by omega
    rw [← e]
    exact hg

theorem one_count {all : List TP} {pts : List (List Nat)} {xs : List Nat} {A : Option Addr} {c : Nat} (hp : pts.Perm (all.map TP.xs)) (hx : xs ∈ pts) : ∀ κ, (([(⟨A, c, xs⟩ : TP)]).map TP.key).count κ ≤ (all.map TP.key).count κ := by
  intro κ
  obtain ⟨p2, h5, h6⟩ := List.mem_map.1 (hp.mem_iff.1 hx)
  have hk : TP.key ⟨A, c, xs⟩ ∈ all.map TP.key := List.mem_map.2 ⟨p2, h5, by unfold TP.key; rw [h6]⟩
  simp only [List.map_cons, List.map_nil, List.count_singleton]
  split
  · rename_i e
    rw [← eq_of_beq e]
    exact List.count_pos_iff.2 hk
  · exact Nat.zero_le _

/-- What the law's look at the points tells. -/
def NrGood (ps ins : List TP) (qx : List Nat) (nq n m : Nat) (pk : List Int) : Prop :=
  (∀ p ∈ ps ++ ins, p.xs.length = nq ∧ p.Gr) ∧ (∀ x ∈ qx, ∃ n, Wh x n) ∧ (0 < nq ∧ nq ≤ 4) ∧ n + m ≤ 120 ∧ pk.length ≤ 80 ∧ ∀ k ∈ pk, 0 ≤ k

theorem nr_some {w : World} {O I P Q : Option Addr} {c ci cp cq n m nk nq : Nat} {ps ins : List TP} {pk : List Int} {qx : List Nat} (W : World) (hW : Mod (fun _ => False) w W) (hx : RR.Ok w ⟨O, c, ps⟩) (hy : RR.Ok w ⟨I, ci, ins⟩) (hP : Sl w P nk 1 (ints pk)) (hn : ps.length = n) (hm : ins.length = m) (hQ : Sl w Q nq 1 (flts qx)) (hql : qx.length = nq) (hnk : nk ≤ 2147483647) (h1 : n ≤ 2147483647) (h2 : m ≤ 2147483647) (hq : nq ≤ 9223372036854775807) :
    Calls Try.prog 9 #[.int .i64 nq, .float .f64 4697254411347427328, .slice P nk cp, .slice (some ⟨W.heap.size + 1, 0, none⟩) 3 3] ((W.alloc (.cells #[.slice Q nq cq] 26)).alloc (.cells #[.slice O n c, .slice I m ci, .slice (some ⟨W.heap.size, 0, none⟩) 1 1] 22)) fun e w' => ((W.alloc (.cells #[.slice Q nq cq] 26)).alloc (.cells #[.slice O n c, .slice I m ci, .slice (some ⟨W.heap.size, 0, none⟩) 1 1] 22)) = w' ∧ ∃ b, e = .returned (.bool b) ∧ (b = true → NrGood ps ins qx nq n m pk) := by
  subst hn hm hql
  have hm2 := (hW.alloc (.cells #[.slice Q qx.length cq] 26)).alloc (.cells #[.slice O ps.length c, .slice I ins.length ci, .slice (some ⟨W.heap.size, 0, none⟩) 1 1] 22)
  have hb1 : Blk ((W.alloc (.cells #[.slice Q qx.length cq] 26)).alloc (.cells #[.slice O ps.length c, .slice I ins.length ci, .slice (some ⟨W.heap.size, 0, none⟩) 1 1] 22)) W.heap.size 26 [.slice Q qx.length cq] := (Blk.new' W #[.slice Q qx.length cq] 26).alloc _
  have hb2 := Blk.new' (W.alloc (.cells #[.slice Q qx.length cq] 26)) #[.slice O ps.length c, .slice I ins.length ci, .slice (some ⟨W.heap.size, 0, none⟩) 1 1] 22
  rw [World.size_alloc] at hb2
  refine (some_at _ P 3 3 nk cp qx.length [⟨O, c, ps⟩, ⟨I, ci, ins⟩, ⟨some ⟨W.heap.size, 0, none⟩, 1, [⟨Q, cq, qx⟩]⟩] pk _ ⟨rfl, fun _ => ⟨W.heap.size + 1, 0, rfl, fun j u hu => ?_⟩⟩ (by omega) ?_ (hP.mod hm2) hnk).mono ?_
  · rw [Nat.zero_add]
    exact hb2.at (by rw [← hu]; rfl)
  · intro z hz
    rcases List.mem_cons.1 hz with rfl | hz
    · exact ⟨hx.mod hm2, h1⟩
    · rcases List.mem_cons.1 hz with rfl | hz
      · exact ⟨hy.mod hm2, h2⟩
      · rw [List.mem_singleton.1 hz]
        refine ⟨⟨⟨rfl, fun _ => ⟨W.heap.size, 0, rfl, fun j u hu => ?_⟩⟩, fun p hp => ?_, by show 1 ≤ _; omega⟩, by show 1 ≤ _; omega⟩
        · rw [Nat.zero_add]
          exact hb1.at (by rw [← hu]; rfl)
        · rw [List.mem_singleton.1 hp]
          exact ⟨hQ.mod hm2, hq⟩
  · rintro e w' ⟨h3, b, h4, h5⟩
    refine ⟨h3, b, h4, fun hb => ?_⟩
    obtain ⟨k1, k2, k3, k4, k5⟩ := h5 hb
    obtain ⟨a1, a2⟩ := k1 _ (List.mem_cons_self ..)
    obtain ⟨a3, -⟩ := k1 _ (List.mem_cons_of_mem _ (List.mem_cons_self ..))
    obtain ⟨a4, -⟩ := k1 _ (List.mem_cons_of_mem _ (List.mem_cons_of_mem _ (List.mem_cons_self ..)))
    refine ⟨fun p hp => ?_, fun x hx => (a4 _ (List.mem_cons_self ..)).2 x hx, by omega, by simp [many] at k3; omega, k4, k5⟩
    rcases List.mem_append.1 hp with hp | hp
    · exact ⟨by have := (a1 p hp).1; omega, TP.gr_of (a1 p hp).2⟩
    · exact ⟨by have := (a3 p hp).1; omega, TP.gr_of (a3 p hp).2⟩

theorem nr_rows {w w3 W : World} {O I A3 : Option Addr} {c ci n m N nq : Nat} {ps ins : List TP} {qx : List Nat} {pk : List Int} (h3 : Sl w3 A3 N 1 ((ps ++ ins).map TP.v)) (hx : RR.Ok w ⟨O, c, ps⟩) (hy : RR.Ok w ⟨I, ci, ins⟩) (hg : NrGood ps ins qx nq n m pk) (h03 : Mod (fun _ => False) w w3) (h3W : Mod (fun _ => False) w3 W) : PRows W A3 N (ps ++ ins) nq := by
  refine ⟨h3.mod h3W, fun p hp => ⟨?_, (hg.1 p hp).1⟩⟩
  rcases List.mem_append.1 hp with hp | hp
  · exact (hx.2.1 p hp).mod (h03.trans h3W)
  · exact (hy.2.1 p hp).mod (h03.trans h3W)

theorem nr_squares {w w3 W7 : World} {O I A3 Q : Option Addr} {c ci cq c3 n m N nq : Nat} {ps ins : List TP} {qx xs : List Nat} {pk : List Int} {pts : List (List Nat)} (h3 : Sl w3 A3 N 1 ((ps ++ ins).map TP.v)) (hN0 : 0 < N) (hn : ps.length = n) (hm : ins.length = m) (hN : N = n + m) (hx : RR.Ok w ⟨O, c, ps⟩) (hy : RR.Ok w ⟨I, ci, ins⟩) (hQ : Sl w Q nq 1 (flts qx)) (hql : qx.length = nq) (hg : NrGood ps ins qx nq n m pk) (h03 : Mod (fun _ => False) w w3) (h37 : Mod (fun _ => False) w3 W7) (hp : pts.Perm ((ps ++ ins).map TP.xs)) (hxs : xs ∈ pts) (hmin : ∀ y ∈ pts, sqx qx xs nq ≤ sqx qx y nq) :
    Hid (∀ W : World, Mod (fun _ => False) W7 W → Calls Try.prog 24 #[.slice A3 N c3, .slice Q nq cq] W fun e w' => ∃ (vb vo cV y0 : Nat), e = .returned (.slice (some ⟨vb, vo, none⟩) N cV) ∧ w'.cell? ⟨vb, vo, none⟩ = some (.float .f64 y0) ∧ (1 : Int) ≤ cV ∧ cV ≤ 9223372036854775807 ∧ Gd 0 y0 (sqx xs qx nq) ∧ Mod (fun _ => False) W w') := by
  intro W hW
  have hb := hg.2.2.2.1
  refine (squares_at A3 N c3 nq (ps ++ ins) ⟨Q, cq, qx⟩ W (nr_rows h3 hx hy hg h03 (h37.trans hW)) (fun p hp => (hg.1 p hp).2) ⟨hql, by show Sl W Q qx.length 1 _; rw [hql]; exact hQ.mod ((h03.trans h37).trans hW)⟩ (TP.gr_of hg.2.1) (by omega) hg.2.2.1.2).mono ?_
  rintro e w' ⟨V, cV, ws, rfl, s1, s2, s3, s4, s5, s6, s7⟩
  obtain ⟨vb, vo, rfl, hc⟩ := s1.2 hN0
  have hwl : ws.length = N := by have := s1.1; simpa [flts] using this
  obtain ⟨y0, hy0, hg0⟩ := first_want hN0 hwl hp hxs hmin s4 s5 s6
  exact ⟨vb, vo, cV, y0, rfl, hc 0 _ (flts_get hy0), by omega, s3, hg0, s7⟩

theorem nr_found {w w3 w6 W7 : World} {O I A3 Q A7 : Option Addr} {c ci cq c3 c7 n m N nq r : Nat} {ps ins : List TP} {qx xs : List Nat} {pk : List Int} {pts : List (List Nat)} (h3 : Sl w3 A3 N 1 ((ps ++ ins).map TP.v)) (hn : ps.length = n) (hm : ins.length = m) (hN : N = n + m) (hx : RR.Ok w ⟨O, c, ps⟩) (hy : RR.Ok w ⟨I, ci, ins⟩) (hQ : Sl w Q nq 1 (flts qx)) (hql : qx.length = nq) (hg : NrGood ps ins qx nq n m pk) (h03 : Mod (fun _ => False) w w3) (h37 : Mod (fun _ => False) w3 W7) (h67 : Mod (fun _ => False) w6 W7) (hp : pts.Perm ((ps ++ ins).map TP.xs)) (h7 : Sl w6 A7 nq 1 (flts xs)) (hxs : xs ∈ pts) (hr : Gd 0 r (sqx qx xs nq)) :
    Hid (∀ (W : World) (fb vb vo cV y0 : Nat), Mod (fun _ => False) W7 W → Blk W fb 51 [.slice A7 nq c7, .float .f64 r] → W.cell? ⟨vb, vo, none⟩ = some (.float .f64 y0) → Gd 0 y0 (sqx xs qx nq) → Calls Try.prog 23 #[.slice (some ⟨fb, 0, none⟩) 1 1, .slice A3 N c3, .slice Q nq cq, .slice (some ⟨vb, vo, none⟩) 1 cV] W fun e w' => e = .returned (.bool true) ∧ Mod (fun _ => False) W w') := by
  intro W fb vb vo cV y0 hW hb hc hy0
  have hxl : xs.length = nq := by have := h7.1; simpa [flts] using this
  have hb3 := hg.2.2.2.1
  obtain ⟨p2, hp2, hp3⟩ := List.mem_map.1 (hp.mem_iff.1 hxs)
  have hgr : TP.Gr ⟨A7, c7, xs⟩ := gr_xs (hg.1 p2 hp2).2 hp3.symm
  refine found_at (some ⟨fb, 0, none⟩) A3 (some ⟨vb, vo, none⟩) 1 1 N c3 cV nq [(⟨A7, c7, xs⟩, r)] (ps ++ ins) ⟨Q, cq, qx⟩ [y0] W ⟨rfl, fun _ => ⟨fb, 0, rfl, fun i x hi => ?_⟩⟩ (fun x hx => ?_) ⟨rfl, fun _ => ⟨vb, vo, rfl, fun j u hu => ?_⟩⟩ (fun i x y hi hj => ?_) (nr_rows h3 hx hy hg h03 (h37.trans hW)) (fun p hp => (hg.1 p hp).2) ⟨hql, by show Sl W Q qx.length 1 _; rw [hql]; exact hQ.mod ((h03.trans h37).trans hW)⟩ (TP.gr_of hg.2.1) (one_count hp hxs) (by omega) hg.2.2.1.2
  · cases i with
    | zero =>
      simp only [List.getElem?_cons_zero, Option.some.injEq] at hi
      subst hi
      refine ⟨?_, hb.at (i := 1) rfl⟩
      show W.cell? ⟨fb, 0, none⟩ = some (.slice A7 xs.length c7)
      rw [hxl]
      exact hb.at (i := 0) rfl
    | succ i => simp at hi
  · rw [List.mem_singleton.1 hx]
    exact ⟨⟨by show Sl W A7 xs.length 1 _; rw [hxl]; exact h7.mod (h67.trans hW), by show xs.length ≤ _; have := hg.2.2.1.2; omega⟩, hxl, hgr⟩
  · cases j with
    | zero =>
      simp only [flts, List.map_cons, List.map_nil, List.getElem?_cons_zero, Option.some.injEq] at hu
      subst hu
      exact hc
    | succ j => simp [flts] at hu
  · cases i with
    | zero =>
      simp only [List.getElem?_cons_zero, Option.some.injEq] at hi hj
      subst hi hj
      exact ⟨by rw [sqx_comm]; exact hr, hy0⟩
    | succ i => simp at hi

set_option maxRecDepth 100000 in
set_option maxHeartbeats 8000000 in
theorem fnTkNearest_at (x y : RR) (P Q : Option Addr) (cp nk cq nq : Nat) (pk : List Int) (qx : List Nat) (w : World) (hx : x.Ok w) (hy : y.Ok w) (hP : Sl w P nk 1 (ints pk)) (hPA : P = none → cp = 0) (hnk : nk ≤ 9223372036854775807) (hpk : ∀ k ∈ pk, k ≤ 9223372036854775807) (hQ : Sl w Q nq 1 (flts qx)) (hnq : nq ≤ 9223372036854775807) :
    Calls Try.prog 6 #[x.v, .slice P nk cp, y.v, .slice Q nq cq] w (Yes w) := by
  have hpl : pk.length = nk := by have := hP.1; simpa [ints] using this
  have hql : qx.length = nq := by have := hQ.1; simpa [flts] using this
  obtain ⟨O, c, ps⟩ := x
  obtain ⟨I, ci, ins⟩ := y
  obtain ⟨n, hn⟩ : ∃ n, ps.length = n := ⟨_, rfl⟩
  obtain ⟨m, hm⟩ : ∃ m, ins.length = m := ⟨_, rfl⟩
  obtain ⟨N, hN⟩ : ∃ N, N = n + m := ⟨_, rfl⟩
  have ex : (RR.mk O c ps).v = .slice O n c := by rw [← hn]; rfl
  have ey : (RR.mk I ci ins).v = .slice I m ci := by rw [← hm]; rfl
  have hnl : n ≤ 9223372036854775807 := by rw [← hn]; exact hx.2.2
  have hml : m ≤ 9223372036854775807 := by rw [← hm]; exact hy.2.2
  have FX : Hid (∀ W : World, Mod (fun _ => False) w W → Calls Try.prog 8 #[.slice O n c] W (FitsTold ⟨O, c, ps⟩ W)) := fun W hm => by rw [← ex]; exact fits4_any _ W (hx.mod hm)
  have FY : Hid (∀ W : World, Mod (fun _ => False) w W → Calls Try.prog 8 #[.slice I m ci] W (FitsTold ⟨I, ci, ins⟩ W)) := fun W h => by rw [← ey]; exact fits4_any _ W (hy.mod h)
  rw [ex, ey]
  have HX := Lib.hid (And.intro hx (And.intro hy (And.intro hP (And.intro hPA (And.intro hpk (And.intro hpl (And.intro hn (And.intro hm (And.intro hQ (And.intro hql hN))))))))))
  clear ex ey hx hy hP hPA hpk hpl hn hm hQ hql
  have ALL : Hid (n ≤ 2147483647 → m ≤ 2147483647 → Calls Try.prog 21 #[.slice O n c, .slice I m ci] w (AllTold ps ins N w)) := fun h1 h2 => by
    rw [HX.out.2.2.2.2.2.2.2.2.2.2]
    exact all_at ⟨O, c, ps⟩ ⟨I, ci, ins⟩ n m w HX.out.1 HX.out.2.1 HX.out.2.2.2.2.2.2.1 HX.out.2.2.2.2.2.2.2.1 ⟨h1, h2⟩
  by_cases hbig : 2147483647 < nk
  · clear hN
    go_enter Try.func6, Try.ntmps6
    have tok1 : True := trivial
    go_wp2_with (first | (go_at_call 8; have _t := tok1; clear _t tok1; refine (FX.out _ (Mod.refl _ _)).mono ?_; rintro _ w1 ⟨b1, rfl, rfl, hb1⟩; have HB1 := Lib.hid hb1; clear hb1))
    all_goals
      go_ret
      exact ⟨rfl, Mod.refl _ _⟩
  · have hdk : decide ((2147483647 : Int) < (nk : Int)) = false := decide_eq_false (by omega)
    by_cases hbq : 2147483647 < nq
    · clear hN
      go_enter Try.func6, Try.ntmps6
      have tok1 : True := trivial
      go_wp2_with (first | (go_at_call 8; have _t := tok1; clear _t tok1; refine (FX.out _ (Mod.refl _ _)).mono ?_; rintro _ w1 ⟨b1, rfl, rfl, hb1⟩; have HB1 := Lib.hid hb1; clear hb1) | (go_at_call 8; refine (FY.out _ (Mod.refl _ _)).mono ?_; rintro _ w2 ⟨b2, rfl, rfl, hb2⟩; have HB2 := Lib.hid hb2; clear hb2))
      all_goals
        go_ret
        exact ⟨rfl, Mod.refl _ _⟩
    · have hdq : decide ((2147483647 : Int) < (nq : Int)) = false := decide_eq_false (by omega)
      by_cases h0 : N = 0
      · subst h0
        clear hN
        go_enter Try.func6, Try.ntmps6
        have tok1 : True := trivial
        go_wp2_with (first | (go_at_call 8; have _t := tok1; clear _t tok1; refine (FX.out _ (Mod.refl _ _)).mono ?_; rintro _ w1 ⟨b1, rfl, rfl, hb1⟩; have HB1 := Lib.hid hb1; clear hb1) | (go_at_call 8; refine (FY.out _ (Mod.refl _ _)).mono ?_; rintro _ w2 ⟨b2, rfl, rfl, hb2⟩; have HB2 := Lib.hid hb2; clear hb2) | (go_at_call 21; refine (ALL.out (by have h1 : ps.length ≤ 2147483647 := (HB1.out (by first | assumption | exact not_false (by assumption))).1; have h2 := HX.out.2.2.2.2.2.2.1; omega) (by have h1 : ins.length ≤ 2147483647 := (HB2.out (by first | assumption | exact not_false (by assumption))).1; have h2 := HX.out.2.2.2.2.2.2.2.1; omega)).mono ?_; rintro _ w3 ⟨A3, c3, rfl, a1, a2, a3⟩; have H3 := Lib.hid (And.intro a1 (And.intro a2 a3)); clear a1 a2 a3))
        all_goals first
          | (go_ret; exact ⟨rfl, by first | exact Mod.refl _ _ | exact H3.out.2.1⟩)
      · have hN0 : 0 < n + m := by omega
        have HN0 := Lib.hid hN0
        have e0 : ((N : Int) == 0) = false := by
          have : (N : Int) ≠ 0 := by omega
          simpa using this
        have SM : Hid (∀ W : World, Mod (fun _ => False) w W → n ≤ 2147483647 → m ≤ 2147483647 → Calls Try.prog 9 #[.int .i64 nq, .float .f64 4697254411347427328, .slice P nk cp, .slice (some ⟨W.heap.size + 1, 0, none⟩) 3 3] ((W.alloc (.cells #[.slice Q nq cq] 26)).alloc (.cells #[.slice O n c, .slice I m ci, .slice (some ⟨W.heap.size, 0, none⟩) 1 1] 22)) fun e w' => ((W.alloc (.cells #[.slice Q nq cq] 26)).alloc (.cells #[.slice O n c, .slice I m ci, .slice (some ⟨W.heap.size, 0, none⟩) 1 1] 22)) = w' ∧ ∃ b, e = .returned (.bool b) ∧ (b = true → NrGood ps ins qx nq n m pk)) := by
          intro W hW h1 h2
          exact nr_some W hW HX.out.1 HX.out.2.1 HX.out.2.2.1 HX.out.2.2.2.2.2.2.1 HX.out.2.2.2.2.2.2.2.1 HX.out.2.2.2.2.2.2.2.2.1 HX.out.2.2.2.2.2.2.2.2.2.1 (by omega) h1 h2 (by omega)
        have KBF : Hid (∀ W : World, Mod (fun _ => False) w W → NrGood ps ins qx nq n m pk → Calls Try.prog 10 #[.slice O n c, .slice P nk cp, .bool false, .slice I m ci] W (KbTold nq n m ps ins (pk.map Int.toNat) W)) := by
          intro W hW h
          obtain ⟨g1, g2, g3, g4, g5, g6, g7, g8, -⟩ := HX.out
          obtain ⟨h1, h2, h3, h4, h5⟩ := h
          refine kbuild_at _ P I n c nk cp m ci nq ps ins _ W ⟨by rw [← g7]; exact (g1.mod hW).1, fun p hp => ⟨(g1.mod hW).2.1 p hp, (h1 p (by simp [hp])).1⟩⟩ ⟨by rw [← g8]; exact (g2.mod hW).1, fun p hp => ⟨(g2.mod hW).2.1 p hp, (h1 p (by simp [hp])).1⟩⟩ (by rw [List.length_map, g6]) (by rw [ints_nat h5.2]; exact g3.mod hW) g4 ?_ (fun p hp => (h1 p (by simp [hp])).2) (fun p hp => (h1 p (by simp [hp])).2) (by omega) (by omega)
          intro k hk
          obtain ⟨k', hk', rfl⟩ := List.mem_map.1 hk
          have := g5 k' hk'
          omega
        clear hN hN0
        go_enter Try.func6, Try.ntmps6
        have tok1 : True := trivial
        go_wp2_with (first | (go_at_call 8; have _t := tok1; clear _t tok1; refine (FX.out _ (Mod.refl _ _)).mono ?_; rintro _ w1 ⟨b1, rfl, rfl, hb1⟩; have HB1 := Lib.hid hb1; clear hb1) | (go_at_call 8; refine (FY.out _ (Mod.refl _ _)).mono ?_; rintro _ w2 ⟨b2, rfl, rfl, hb2⟩; have HB2 := Lib.hid hb2; clear hb2) | (go_at_call 21; refine (ALL.out (by have h1 : ps.length ≤ 2147483647 := (HB1.out (by first | assumption | exact not_false (by assumption))).1; have h2 := HX.out.2.2.2.2.2.2.1; omega) (by have h1 : ins.length ≤ 2147483647 := (HB2.out (by first | assumption | exact not_false (by assumption))).1; have h2 := HX.out.2.2.2.2.2.2.2.1; omega)).mono ?_; rintro _ w3 ⟨A3, c3, rfl, a1, a2, a3⟩; have H3 := Lib.hid (And.intro a1 (And.intro a2 a3)); clear a1 a2 a3) | (go_at_call 9; refine (SM.out w3 H3.out.2.1 (by have h1 : ps.length ≤ 2147483647 := (HB1.out (by first | assumption | exact not_false (by assumption))).1; have h2 := HX.out.2.2.2.2.2.2.1; omega) (by have h1 : ins.length ≤ 2147483647 := (HB2.out (by first | assumption | exact not_false (by assumption))).1; have h2 := HX.out.2.2.2.2.2.2.2.1; omega)).mono ?_; rintro _ w4 ⟨rfl, b3, rfl, hb3⟩; have HB3 := Lib.hid hb3; clear hb3) | (go_at_call 10; refine (KBF.out _ ((H3.out.2.1.alloc _).alloc _) (HB3.out (by first | assumption | exact not_false (by assumption)))).mono ?_; rintro _ w5 ⟨v, rs, mt, qs, is, rfl, k1, k2, k3, k4, k5, k6, k7, ⟨A5, c5, rfl⟩⟩; have HG : Hid (Grown nq (ps ++ ins) mt rs) := grown_of (HB3.out (by first | assumption | exact not_false (by assumption))).2.2.1.1 HX.out.2.2.2.2.2.2.1 HX.out.2.2.2.2.2.2.2.1 HN0.out (HB3.out (by first | assumption | exact not_false (by assumption))).1 k2 k3 k4 k5 k6; obtain ⟨N5, hN5⟩ : ∃ N5, N5 = rs.length := ⟨_, rfl⟩; rw [← hN5] at k1; rw [← hN5]; have HK := Lib.hid (And.intro k1 (And.intro hN5 k7)); clear k1 k2 k3 k4 k5 k6 k7 hN5) | (go_at_call 22; refine (knearest_at A5 Q c5 N5 cq nq _ qx rs mt w5 (HB3.out (by first | assumption | exact not_false (by assumption))).2.2.1 HK.out.2.1 HG.out.box HG.out.some HK.out.1 HG.out.seg (HX.out.2.2.2.2.2.2.2.2.1.mod (((H3.out.2.1.alloc _).alloc _).trans HK.out.2.2)) (HB3.out (by first | assumption | exact not_false (by assumption))).2.1 HG.out.good HG.out.ord HG.out.each).mono ?_; rintro _ w6 ⟨A7, c7, xs, r, rfl, n1, n2, n3, n4, n5, n6⟩; have H6 := Lib.hid (And.intro n1 (And.intro n2 (And.intro n3 (And.intro n4 (And.intro n5 n6))))); clear n1 n2 n3 n4 n5 n6))
        all_goals first
          | (go_ret; exact ⟨rfl, by first | exact Mod.refl _ _ | exact H3.out.2.1 | exact (H3.out.2.1.alloc _).alloc _⟩)
          | skip
        have hg := HB3.out (by first | assumption | exact not_false (by assumption))
        obtain ⟨o7, ho7⟩ : ∃ o7, o7 = Obj.cells #[.slice A7 nq c7, .float .f64 r] 51 := ⟨_, rfl⟩
        obtain ⟨W7, eW7⟩ : ∃ W7, W7 = w6.alloc o7 := ⟨_, rfl⟩
        have hm7 : Mod (fun _ => False) w W7 := by rw [eW7]; exact ((((H3.out.2.1.alloc _).alloc _).trans HK.out.2.2).trans H6.out.2.2.2.2.2).alloc _
        have hm67 : Mod (fun _ => False) w6 W7 := by rw [eW7]; exact (Mod.refl _ _).alloc _
        have hm37 : Mod (fun _ => False) w3 W7 := by rw [eW7]; exact (((((Mod.refl _ _).alloc _).alloc _).trans HK.out.2.2).trans H6.out.2.2.2.2.2).alloc _
        have B7 : Blk W7 w6.heap.size 51 [.slice A7 nq c7, .float .f64 r] := by rw [eW7, ho7]; exact Blk.new' w6 _ _
        have SQF : Hid (∀ W : World, Mod (fun _ => False) W7 W → Calls Try.prog 24 #[.slice A3 N c3, .slice Q nq cq] W fun e w' => ∃ (vb vo cV y0 : Nat), e = .returned (.slice (some ⟨vb, vo, none⟩) N cV) ∧ w'.cell? ⟨vb, vo, none⟩ = some (.float .f64 y0) ∧ (1 : Int) ≤ cV ∧ cV ≤ 9223372036854775807 ∧ Gd 0 y0 (sqx xs qx nq) ∧ Mod (fun _ => False) W w') :=
          nr_squares H3.out.1 (by omega) HX.out.2.2.2.2.2.2.1 HX.out.2.2.2.2.2.2.2.1 HX.out.2.2.2.2.2.2.2.2.2.2 HX.out.1 HX.out.2.1 HX.out.2.2.2.2.2.2.2.2.1 HX.out.2.2.2.2.2.2.2.2.2.1 hg H3.out.2.1 hm37 HG.out.pts H6.out.2.1 H6.out.2.2.2.1
        have FDF : Hid (∀ (W : World) (fb vb vo cV y0 : Nat), Mod (fun _ => False) W7 W → Blk W fb 51 [.slice A7 nq c7, .float .f64 r] → W.cell? ⟨vb, vo, none⟩ = some (.float .f64 y0) → Gd 0 y0 (sqx xs qx nq) → Calls Try.prog 23 #[.slice (some ⟨fb, 0, none⟩) 1 1, .slice A3 N c3, .slice Q nq cq, .slice (some ⟨vb, vo, none⟩) 1 cV] W fun e w' => e = .returned (.bool true) ∧ Mod (fun _ => False) W w') :=
          nr_found H3.out.1 HX.out.2.2.2.2.2.2.1 HX.out.2.2.2.2.2.2.2.1 HX.out.2.2.2.2.2.2.2.2.2.2 HX.out.1 HX.out.2.1 HX.out.2.2.2.2.2.2.2.2.1 HX.out.2.2.2.2.2.2.2.2.2.1 hg H3.out.2.1 hm37 hm67 HG.out.pts H6.out.1 H6.out.2.1 H6.out.2.2.1
        have KEEP : Hid (∀ W : World, Mod (fun _ => False) W7 W → W.cell? ⟨w6.heap.size, 0, none⟩ = some (.slice A7 nq c7) ∧ W.cell? ⟨w6.heap.size, 1, none⟩ = some (.float .f64 r)) := fun W hm => ⟨(B7.mod hm (fun h => h)).at (i := 0) rfl, (B7.mod hm (fun h => h)).at (i := 1) rfl⟩
        have HM7 := Lib.hid hm7
        rw [← ho7, ← eW7]
        clear hm7 hm67 hm37 B7 eW7 ho7 hg
        go_region_held3 (fun w' => w'.cell? ⟨w6.heap.size, 0, none⟩ = some (.slice A7 nq c7) ∧ w'.cell? ⟨w6.heap.size, 1, none⟩ = some (.float .f64 r)) (exact KEEP.out _ (by repeat' (first | with_reducible exact Mod.refl _ _ | with_reducible exact HMA.out | with_reducible exact HMB.out | with_reducible refine Mod.drew ?_ | with_reducible refine Mod.drewN ?_ _ | with_reducible refine Mod.alloc ?_ _)))
          (first
            | (go_at_call 24; refine (SQF.out _ (by repeat' (first | with_reducible exact Mod.refl _ _ | with_reducible exact HMA.out | with_reducible refine Mod.drew ?_ | with_reducible refine Mod.drewN ?_ _ | with_reducible refine Mod.alloc ?_ _))).mono ?_; rintro _ w9 ⟨vb, vo, cV, y0, rfl, s1, s2, s3, s4, s5⟩; have hma : Mod (fun _ => False) W7 w9 := Mod.trans (by repeat' (first | with_reducible exact Mod.refl _ _ | with_reducible exact HMA.out | with_reducible refine Mod.drew ?_ | with_reducible refine Mod.drewN ?_ _ | with_reducible refine Mod.alloc ?_ _)) s5; have HMA := Lib.hid hma; (try (have b9 : Blk w9 W7.heap.size 51 [.slice A7 nq c7, .float .f64 r] := (by first | exact (Blk.new' W7 #[.slice A7 nq c7, .float .f64 r] 51).mod s5 (fun h => h) | exact (Blk.new' W7.drew #[.slice A7 nq c7, .float .f64 r] 51).mod s5 (fun h => h) | exact (Blk.new' (W7.drewN _) #[.slice A7 nq c7, .float .f64 r] 51).mod s5 (fun h => h)); have HB9 := Lib.hid b9; clear b9)); have HS := Lib.hid (And.intro s1 (And.intro s4 s5)); clear hma s1 s4 s5)
            | (go_at_call 23; refine (FDF.out _ _ vb vo cV y0 (by repeat' (first | with_reducible exact Mod.refl _ _ | with_reducible exact HMA.out | with_reducible refine Mod.drew ?_ | with_reducible refine Mod.drewN ?_ _ | with_reducible refine Mod.alloc ?_ _)) (by first | exact HB9.out | exact Blk.new' _ #[.slice A7 nq c7, .float .f64 r] 51) (((show Mod (fun _ => False) w9 _ from (by repeat' (first | with_reducible exact Mod.refl _ _ | with_reducible exact HMA.out | with_reducible refine Mod.drew ?_ | with_reducible refine Mod.drewN ?_ _ | with_reducible refine Mod.alloc ?_ _))).cell (lt_of_cell HS.out.1) (fun h => h)).trans HS.out.1) HS.out.2.1).mono ?_; rintro _ w10 ⟨rfl, hm10⟩; have hmb : Mod (fun _ => False) W7 w10 := Mod.trans (by repeat' (first | with_reducible exact Mod.refl _ _ | with_reducible exact HMA.out | with_reducible refine Mod.drew ?_ | with_reducible refine Mod.drewN ?_ _ | with_reducible refine Mod.alloc ?_ _)) hm10; have HMB := Lib.hid hmb; clear hmb hm10))
        all_goals
          go_wp2_with fail
          go_ret
          exact ⟨rfl, HM7.out.trans (by repeat' (first | with_reducible exact HMB.out | with_reducible refine Mod.drew ?_ | with_reducible refine Mod.drewN ?_ _))⟩
end Go.Proofs.Ytmeooadgdagiiaa

namespace Go.Proofs.Ytmeooadgdagiiaa.W
open Go.RowKit Lox
set_option linter.unusedVariables false

/-- What the law's look at the points tells. -/
def RdGood (ps ins : List TP) (lo hi : List Nat) (nq n m : Nat) (pk : List Int) : Prop :=
  (∀ p ∈ ps ++ ins, p.xs.length = nq ∧ p.Gr) ∧ (∀ x ∈ lo, ∃ n, Wh x n) ∧ (∀ x ∈ hi, ∃ n, Wh x n) ∧ (0 < nq ∧ nq ≤ 4) ∧ n + m ≤ 120 ∧ pk.length ≤ 80 ∧ ∀ k ∈ pk, 0 ≤ k

theorem rd_some {w : World} {O I P A1 A2 : Option Addr} {c ci cp c1 c2 n m nk nq : Nat} {ps ins : List TP} {pk : List Int} {lo hi : List Nat} (hx : RR.Ok w ⟨O, c, ps⟩) (hy : RR.Ok w ⟨I, ci, ins⟩) (hP : Sl w P nk 1 (ints pk)) (hn : ps.length = n) (hm : ins.length = m) (h1 : Sl w A1 nq 1 (flts lo)) (h2 : Sl w A2 nq 1 (flts hi)) (hl1 : lo.length = nq) (hl2 : hi.length = nq) (hnk : nk ≤ 2147483647) (b1 : n ≤ 2147483647) (b2 : m ≤ 2147483647) (hq : nq ≤ 9223372036854775807) :
    Calls Try.prog 9 #[.int .i64 nq, .float .f64 4697254411347427328, .slice P nk cp, .slice (some ⟨w.heap.size + 1, 0, none⟩) 3 3] ((w.alloc (.cells #[.slice A1 nq c1, .slice A2 nq c2] 26)).alloc (.cells #[.slice O n c, .slice I m ci, .slice (some ⟨w.heap.size, 0, none⟩) 2 2] 22)) fun e w' => ((w.alloc (.cells #[.slice A1 nq c1, .slice A2 nq c2] 26)).alloc (.cells #[.slice O n c, .slice I m ci, .slice (some ⟨w.heap.size, 0, none⟩) 2 2] 22)) = w' ∧ ∃ b, e = .returned (.bool b) ∧ (b = true → RdGood ps ins lo hi nq n m pk) := by
  subst hn hm
  have hm2 : Mod (fun _ => False) w ((w.alloc (.cells #[.slice A1 nq c1, .slice A2 nq c2] 26)).alloc (.cells #[.slice O ps.length c, .slice I ins.length ci, .slice (some ⟨w.heap.size, 0, none⟩) 2 2] 22)) := ((Mod.refl _ _).alloc _).alloc _
  have hb1 : Blk ((w.alloc (.cells #[.slice A1 nq c1, .slice A2 nq c2] 26)).alloc (.cells #[.slice O ps.length c, .slice I ins.length ci, .slice (some ⟨w.heap.size, 0, none⟩) 2 2] 22)) w.heap.size 26 [.slice A1 nq c1, .slice A2 nq c2] := (Blk.new' w #[.slice A1 nq c1, .slice A2 nq c2] 26).alloc _
  have hb2 := Blk.new' (w.alloc (.cells #[.slice A1 nq c1, .slice A2 nq c2] 26)) #[.slice O ps.length c, .slice I ins.length ci, .slice (some ⟨w.heap.size, 0, none⟩) 2 2] 22
  rw [World.size_alloc] at hb2
  refine (some_at _ P 3 3 nk cp nq [⟨O, c, ps⟩, ⟨I, ci, ins⟩, ⟨some ⟨w.heap.size, 0, none⟩, 2, [⟨A1, c1, lo⟩, ⟨A2, c2, hi⟩]⟩] pk _ ⟨rfl, fun _ => ⟨w.heap.size + 1, 0, rfl, fun j u hu => ?_⟩⟩ (by omega) ?_ (hP.mod hm2) hnk).mono ?_
  · rw [Nat.zero_add]
    exact hb2.at (by rw [← hu]; rfl)
  · intro z hz
    rcases List.mem_cons.1 hz with rfl | hz
    · exact ⟨hx.mod hm2, b1⟩
    · rcases List.mem_cons.1 hz with rfl | hz
      · exact ⟨hy.mod hm2, b2⟩
      · rw [List.mem_singleton.1 hz]
        refine ⟨⟨⟨rfl, fun _ => ⟨w.heap.size, 0, rfl, fun j u hu => ?_⟩⟩, fun p hp => ?_, by show 2 ≤ _; omega⟩, by show 2 ≤ _; omega⟩
        · rw [Nat.zero_add]
          refine hb1.at ?_
          rw [← hu]
          simp only [List.map_cons, List.map_nil, TP.v, hl1, hl2]
        · rcases List.mem_cons.1 hp with rfl | hp
          · exact ⟨by show Sl _ A1 lo.length 1 _; rw [hl1]; exact h1.mod hm2, by show lo.length ≤ _; omega⟩
          · rw [List.mem_singleton.1 hp]
            exact ⟨by show Sl _ A2 hi.length 1 _; rw [hl2]; exact h2.mod hm2, by show hi.length ≤ _; omega⟩
  · rintro e w' ⟨h3, b, h4, h5⟩
    refine ⟨h3, b, h4, fun hb => ?_⟩
    obtain ⟨k1, k2, k3, k4, k5⟩ := h5 hb
    obtain ⟨a1, a2⟩ := k1 _ (List.mem_cons_self ..)
    obtain ⟨a3, -⟩ := k1 _ (List.mem_cons_of_mem _ (List.mem_cons_self ..))
    obtain ⟨a4, -⟩ := k1 _ (List.mem_cons_of_mem _ (List.mem_cons_of_mem _ (List.mem_cons_self ..)))
    refine ⟨fun p hp => ?_, fun x hx => (a4 _ (List.mem_cons_self ..)).2 x hx, fun x hx => (a4 _ (List.mem_cons_of_mem _ (List.mem_cons_self ..))).2 x hx, by omega, by simp [many] at k3; omega, k4, k5⟩
    rcases List.mem_append.1 hp with hp | hp
    · obtain ⟨c1, c2⟩ := a1 p hp
      exact ⟨by omega, TP.gr_of c2⟩
    · obtain ⟨c1, c2⟩ := a3 p hp
      exact ⟨by omega, TP.gr_of c2⟩

/-- The tree with boxes that KBuild tells. -/
structure GrownB (dims n : Nat) (mt : MT) (rs : List KR) : Prop where
  plain : rs.map KR.plain = mt.flat 0
  box : ∀ x ∈ rs, x.mn.xs.length = dims ∧ x.mx.xs.length = dims
  len : rs.length = n
  cnt : mt.count = n
  some : mt ≠ .nil
  good : ∀ p ∈ mt.pts, p.xs.length = dims ∧ p.Gr
  ord : mt.T.Ord leB
  each : mt.T.Each (fun _ d => d < dims)

theorem grownB_of {dims n m : Nat} {ps ins qs is : List TP} {ks : List Nat} {mt : MT} {rs : List KR} (hd : 0 < dims) (hn : ps.length = n) (hm : ins.length = m) (hN : 0 < n + m) (hall : ∀ p ∈ ps ++ ins, p.xs.length = dims ∧ p.Gr) (hr : rs.map KR.plain = mt.flat 0) (hT : mt.T = KB.inss leB dims (KB.build leB dims n qs ks 0).1 is) (hb : mt.BoxOfs dims) (hqs : qs.map TP.xs = ps.map TP.xs) (his : is.map TP.xs = ins.map TP.xs) : GrownB dims (n + m) mt rs := by
  have hql : qs.length = n := by have := congrArg List.length hqs; simpa [hn] using this
  have hil : is.length = m := by have := congrArg List.length his; simpa [hm] using this
  obtain ⟨a1, a2, a3⟩ := KB.build_all leB dims hd n qs ks 0 (by omega) hd
  have hp : mt.pts.Perm (qs ++ is) := by
    rw [MT.pts_all, hT]
    exact (KB.inss_perm leB dims is _).trans (a1.append_right is)
  have hx : (mt.pts.map TP.xs).Perm ((ps ++ ins).map TP.xs) := by
    have h := hp.map TP.xs
    rw [List.map_append, hqs, his, ← List.map_append] at h
    exact h
  have hc : mt.count = n + m := by
    rw [← MT.count_pts]
    have := hp.length_eq
    rw [List.length_append] at this
    omega
  have hl := congrArg List.length hr
  rw [List.length_map, MT.flat_len] at hl
  refine ⟨hr, fun x hx => ?_, by omega, hc, ?_, fun p hp => ?_, by rw [hT]; exact KB.inss_ord leB dims is _ a2, by rw [hT]; exact KB.inss_each leB dims hd is _ a3⟩
  · have h1 : x.plain ∈ mt.flat 0 := by rw [← hr]; exact List.mem_map_of_mem hx
    exact flat_box mt 0 hb _ h1
  · rintro rfl
    simp [MT.count] at hc
    omega
  · have h1 : p.xs ∈ (ps ++ ins).map TP.xs := hx.mem_iff.1 (List.mem_map_of_mem hp)
    obtain ⟨p0, h2, h3⟩ := List.mem_map.1 h1
    obtain ⟨h4, h5⟩ := hall p0 h2
    exact ⟨by rw [← h3]; exact h4, gr_xs h5 h3.symm⟩

section
variable {dims n c B : Nat} {mt : MT} {rs : List KR} {T : Option Addr} {w : World}

theorem GrownB.rows (h : GrownB dims n mt rs) (hd : 0 < dims ∧ dims ≤ 4) (hK : KS B w dims (.slice T n c) rs) (hn : n ≤ 2147483647) : KNodes w T (rs.map knOf) := knodes_of hK h.len.symm (by omega) (by have := h.len; omega)

theorem GrownB.kd (h : GrownB dims n mt rs) (hn : n ≤ 2147483647) (h0 : 0 < n) : IsKd (rs.map knOf) n dims := isKd_of h.len.symm h0 hn h.plain h.good h.ord h.each

theorem GrownB.kwalk (h : GrownB dims n mt rs) (hd : 0 < dims ∧ dims ≤ 4) (hK : KS B w dims (.slice T n c) rs) (hn : n ≤ 2147483647) (h0 : 0 < n) :
    Calls Try.prog 17 #[.slice T n c, .int .i64 0] w fun e w' => ∃ A1 c1 A2 c2 gs, e = .returned (.tuple #[.slice A1 n c1, .slice A2 n c2, .bool false, .bool true]) ∧ Mod (fun _ => False) w w' ∧ Sl w' A1 n 1 gs ∧ PtsAt w' gs (mt.pts.map TP.xs) := by
  obtain ⟨e1, e2⟩ := walk_pts h.len h0 h.plain
  refine (kwalk_told T c n (rs.map knOf) 0 w (by rw [List.length_map, h.len]) h0 hn (fun x hx => ?_) (h.rows hd hK hn) e1).mono ?_
  · obtain ⟨y, hy, rfl⟩ := List.mem_map.1 hx
    obtain ⟨b1, b2⟩ := h.box y hy
    have hl := ((hK.ok y hy).1.1).1
    refine ⟨by show 0 < y.p.xs.length ∧ y.p.xs.length ≤ 4; omega, .inr ?_⟩
    show 0 < y.mn.xs.length ∧ y.mn.xs.length ≤ 4 ∧ 0 < y.mx.xs.length ∧ y.mx.xs.length ≤ 4
    omega
  · rintro e w' ⟨A1, c1, A2, c2, gs, he, hm, hs, hp, -⟩
    have hc : cut 0 ((ino (KC (rs.map knOf)) (KF (rs.map knOf)) n 0 0).map fun p => (PX (rs.map knOf) p.1, p.2)) = (ino (KC (rs.map knOf)) (KF (rs.map knOf)) n 0 0).map fun p => (PX (rs.map knOf) p.1, p.2) := if_neg (by omega)
    have hst : stopped 0 ((ino (KC (rs.map knOf)) (KF (rs.map knOf)) n 0 0).map fun p => (PX (rs.map knOf) p.1, p.2)) = false := decide_eq_false (by omega)
    rw [hc] at he hs hp
    rw [hst] at he
    rw [List.length_map, e1] at he hs
    rw [List.map_map] at hp
    refine ⟨A1, c1, A2, c2, gs, he, hm, hs, ?_⟩
    rw [← e2]
    exact hp
end
end Go.Proofs.Ytmeooadgdagiiaa.W

namespace Go.Proofs.Ytmeooadgdagiiaa.W
open Go.RowKit Lox
set_option linter.unusedVariables false
attribute [local go_sem] run_store_flt run_store_fn

/-- What the law answers. -/
def YesIn (w : World) (e : Ending) (w' : World) : Prop := e = .returned (.bool true) ∧ Mod (fun _ => False) w w'

theorem info_row4 : (Try.prog.info? 26).map (fun i => (i.zero, i.size, i.bytes)) = some (some (.slice none 0 0), 1, 24) := by kernel_rfl

/-- What stands before the first answer: too long, or no points, or boxes of other sizes. -/
def RdIn (w : World) (O I P A1 A2 : Option Addr) (n m nk n1 n2 c ci cp : Nat) (ps ins : List TP) (pk : List Int) (lo hi : List Nat) : Prop :=
  (RR.Ok w ⟨O, c, ps⟩ ∧ ps.length = n) ∧ (RR.Ok w ⟨I, ci, ins⟩ ∧ ins.length = m) ∧ (Sl w P nk 1 (ints pk) ∧ pk.length = nk ∧ (P = none → cp = 0) ∧ ∀ k ∈ pk, k ≤ 9223372036854775807) ∧ (Sl w A1 n1 1 (flts lo) ∧ lo.length = n1) ∧ (Sl w A2 n2 1 (flts hi) ∧ hi.length = n2)

set_option maxRecDepth 100000 in
set_option maxHeartbeats 4000000 in
theorem road_early (O I P A1 A2 : Option Addr) (n m nk n1 n2 c ci cp c1 c2 : Nat) (ps ins : List TP) (pk : List Int) (lo hi : List Nat) (w : World) (h : RdIn w O I P A1 A2 n m nk n1 n2 c ci cp ps ins pk lo hi) (hc : ¬ (n ≤ 2147483647 ∧ nk ≤ 2147483647 ∧ m ≤ 2147483647 ∧ n1 ≤ 2147483647 ∧ n2 ≤ 2147483647)) :
    Calls Try.prog 5 #[.slice O n c, .slice P nk cp, .slice I m ci, .slice A1 n1 c1, .slice A2 n2 c2] w (YesIn w) := by
  have FX : Hid (Calls Try.prog 8 #[.slice O n c] w fun e w' => (∃ b, e = .returned (.bool b) ∧ (b = true → n ≤ 2147483647)) ∧ w = w') := by
    have := fits4_any ⟨O, c, ps⟩ w h.1.1
    rw [show (RR.mk O c ps).v = .slice O n c from by rw [← h.1.2]; rfl] at this
    exact this.mono fun e w' ⟨b, he, hw, hb⟩ => ⟨⟨b, he, fun ht => by have := (hb ht).1; rw [← h.1.2]; exact this⟩, hw⟩
  have FY : Hid (Calls Try.prog 8 #[.slice I m ci] w fun e w' => (∃ b, e = .returned (.bool b) ∧ (b = true → m ≤ 2147483647)) ∧ w = w') := by
    have := fits4_any ⟨I, ci, ins⟩ w h.2.1.1
    rw [show (RR.mk I ci ins).v = .slice I m ci from by rw [← h.2.1.2]; rfl] at this
    exact this.mono fun e w' ⟨b, he, hw, hb⟩ => ⟨⟨b, he, fun ht => by have := (hb ht).1; rw [← h.2.1.2]; exact this⟩, hw⟩
  clear h
  have HX : Hid (∀ b1 b2 : Bool, (b1 = true → n ≤ 2147483647) → (b2 = true → m ≤ 2147483647) → b1 = true → (nk : Int) ≤ 2147483647 → b2 = true → (n1 : Int) ≤ 2147483647 → n2 ≤ 2147483647 → False) := fun b1 b2 h1 h2 e1 e2 e3 e4 e5 => hc ⟨h1 e1, by omega, h2 e3, by omega, e5⟩
  clear hc
  have tok1 : True := trivial
  by_cases hn2 : n2 ≤ 2147483647
  · have hd2 : ¬ (2147483647 < (n2 : Int)) := by omega
    go_enter Try.func5, Try.ntmps5
    go_upto_if 46 with (first | (go_at_call 8; have _t := tok1; clear _t tok1; refine FX.out.mono ?_; rintro _ w1 ⟨⟨b1, rfl, hb1⟩, rfl⟩; have HB1 := Lib.hid hb1; clear hb1) | (go_at_call 8; refine FY.out.mono ?_; rintro _ w2 ⟨⟨b2, rfl, hb2⟩, rfl⟩; have HB2 := Lib.hid hb2; clear hb2))
    all_goals first
      | (exfalso; exact HX.out b1 b2 HB1.out HB2.out (by assumption) (by assumption) (by assumption) (by assumption) hn2)
      | (go_wp2_with fail; go_ret; exact ⟨rfl, Mod.refl _ _⟩)
  · have hd2 : 2147483647 < (n2 : Int) := by omega
    go_enter Try.func5, Try.ntmps5
    go_upto_if 46 with (first | (go_at_call 8; have _t := tok1; clear _t tok1; refine FX.out.mono ?_; rintro _ w1 ⟨⟨b1, rfl, hb1⟩, rfl⟩; have HB1 := Lib.hid hb1; clear hb1) | (go_at_call 8; refine FY.out.mono ?_; rintro _ w2 ⟨⟨b2, rfl, hb2⟩, rfl⟩; have HB2 := Lib.hid hb2; clear hb2))
    all_goals (go_wp2_with fail; go_ret; exact ⟨rfl, Mod.refl _ _⟩)

set_option maxRecDepth 100000 in
set_option maxHeartbeats 4000000 in
theorem road_none (O I P A1 A2 : Option Addr) (n m nk n1 n2 c ci cp c1 c2 : Nat) (ps ins : List TP) (pk : List Int) (lo hi : List Nat) (w : World) (h : RdIn w O I P A1 A2 n m nk n1 n2 c ci cp ps ins pk lo hi) (hc : n ≤ 2147483647 ∧ nk ≤ 2147483647 ∧ m ≤ 2147483647 ∧ n1 ≤ 2147483647 ∧ n2 ≤ 2147483647) (h0 : n + m = 0 ∨ n1 ≠ n2) :
    Calls Try.prog 5 #[.slice O n c, .slice P nk cp, .slice I m ci, .slice A1 n1 c1, .slice A2 n2 c2] w (YesIn w) := by
  have FX : Hid (Calls Try.prog 8 #[.slice O n c] w fun e w' => (∃ b, e = .returned (.bool b)) ∧ w = w') := by
    have := fits4_any ⟨O, c, ps⟩ w h.1.1
    rw [show (RR.mk O c ps).v = .slice O n c from by rw [← h.1.2]; rfl] at this
    exact this.mono fun e w' ⟨b, he, hw, hb⟩ => ⟨⟨b, he⟩, hw⟩
  have FY : Hid (Calls Try.prog 8 #[.slice I m ci] w fun e w' => (∃ b, e = .returned (.bool b)) ∧ w = w') := by
    have := fits4_any ⟨I, ci, ins⟩ w h.2.1.1
    rw [show (RR.mk I ci ins).v = .slice I m ci from by rw [← h.2.1.2]; rfl] at this
    exact this.mono fun e w' ⟨b, he, hw, hb⟩ => ⟨⟨b, he⟩, hw⟩
  clear h
  have d1 : ¬ (2147483647 < (nk : Int)) := by omega
  have d2 : ¬ (2147483647 < (n1 : Int)) := by omega
  have d3 : ¬ (2147483647 < (n2 : Int)) := by omega
  have hwr : IntKind.i64.wrap ((n : Int) + (m : Int)) = (n : Int) + (m : Int) := IntWalk.i64_in _ (by omega)
  have tok1 : True := trivial
  by_cases hz : n + m = 0
  · obtain rfl : n = 0 := by omega
    obtain rfl : m = 0 := by omega
    go_enter Try.func5, Try.ntmps5
    go_wp2_with (first | (go_at_call 8; have _t := tok1; clear _t tok1; refine FX.out.mono ?_; rintro _ w1 ⟨⟨b1, rfl⟩, rfl⟩) | (go_at_call 8; refine FY.out.mono ?_; rintro _ w2 ⟨⟨b2, rfl⟩, rfl⟩))
    all_goals (go_ret; exact ⟨rfl, Mod.refl _ _⟩)
  · have hz1 : ((n : Int) + (m : Int) == 0) = false := by
      have : (n : Int) + (m : Int) ≠ 0 := by omega
      simpa using this
    have hz2 : ((n1 : Int) == (n2 : Int)) = false := by
      have : (n1 : Int) ≠ n2 := by omega
      simpa using this
    go_enter Try.func5, Try.ntmps5
    go_wp2_with (first | (go_at_call 8; have _t := tok1; clear _t tok1; refine FX.out.mono ?_; rintro _ w1 ⟨⟨b1, rfl⟩, rfl⟩) | (go_at_call 8; refine FY.out.mono ?_; rintro _ w2 ⟨⟨b2, rfl⟩, rfl⟩))
    all_goals (go_ret; exact ⟨rfl, Mod.refl _ _⟩)
end Go.Proofs.Ytmeooadgdagiiaa.W

namespace Go.Proofs.Ytmeooadgdagiiaa.W
open Go.RowKit Lox
set_option linter.unusedVariables false
attribute [local go_sem] run_store_flt run_store_fn

/-- The points of a list that lie within a box. -/
noncomputable def rdF (lo hi : List Nat) (l : List (List Nat)) : List (List Nat) := l.filter fun p => decide (inBox lo hi p)

/-- The row of the points within the box, so far. -/
def RdRow (w w' : World) (v : Value) (F : List (List Nat)) : Prop :=
  ∃ vals, w'.ownsRow w.heap.size 26 1 v F.length vals ∧ PtsAt w vals F ∧ Mod (fun _ => False) w w'

theorem PtsAt.mod {w w' : World} {gs : List Value} {ls : List (List Nat)} (h : PtsAt w gs ls) (hm : Mod (fun _ => False) w w') : PtsAt w' gs ls :=
  ⟨h.1, fun i v xs h1 h2 => by obtain ⟨A, n, c, e, hn, hs⟩ := h.2 i v xs h1 h2; exact ⟨A, n, c, e, hn, hs.mod hm⟩⟩

theorem rdF_take {lo hi : List Nat} {l : List (List Nat)} {k : Nat} {p : List Nat} (h : l[k]? = some p) : rdF lo hi (l.take (k + 1)) = rdF lo hi (l.take k) ++ (if inBox lo hi p then [p] else []) := by
  have hk := (List.getElem?_eq_some_iff.1 h)
  obtain ⟨hk1, hk2⟩ := hk
  rw [List.take_succ_eq_append_getElem hk1, hk2]
  unfold rdF
  rw [List.filter_append, List.filter_cons]
  by_cases hb : inBox lo hi p
  · rw [decide_eq_true hb, if_pos rfl, if_pos hb]; rfl
  · rw [decide_eq_false hb, if_neg (by decide), if_neg hb]; rfl

theorem rd_push {w wr w3 : World} {v : Value} {F : List (List Nat)} {vals : List Value} {xs : List Nat} {o : Obj} {g cap n c : Nat} {A : Option Addr} (ho : wr.ownsRow w.heap.size 26 1 v F.length vals) (hp : PtsAt w vals F) (hm : Mod (fun _ => False) w wr) (hs : Sl w A n 1 (flts xs)) (hn : n ≤ 1099511627776)
    (hown : w3.ownsRow w.heap.size 26 1 (.slice (some ⟨g, 0, none⟩) (F.length + 1) cap) (F.length + 1) (vals ++ [.slice A n c])) (hg : (wr.alloc o).grownBy w3 v.ownBlock) :
    RdRow w w3 (.slice (some ⟨g, 0, none⟩) (F.length + 1) cap) (F ++ [xs]) := by
  refine ⟨_, by rw [List.length_append]; exact hown, ⟨by simp [hp.1], fun i u ys hu hy => ?_⟩, below_mid ho (hm.alloc _) hg⟩
  rcases Nat.lt_or_ge i vals.length with hi | hi
  · rw [List.getElem?_append_left hi] at hu
    rw [List.getElem?_append_left (by rw [← hp.1]; exact hi)] at hy
    exact hp.2 i u ys hu hy
  · rw [List.getElem?_append_right hi] at hu
    rw [List.getElem?_append_right (by rw [← hp.1]; exact hi)] at hy
    have h0 : i - vals.length = 0 := by
      rcases Nat.eq_zero_or_pos (i - vals.length) with h0 | h0
      · exact h0
      · rw [List.getElem?_eq_none (by simp; omega)] at hu; cases hu
    rw [h0] at hu
    rw [← hp.1, h0] at hy
    simp at hu hy
    subst hu hy
    exact ⟨A, n, c, rfl, hn, hs⟩

set_option maxRecDepth 100000 in
set_option maxHeartbeats 8000000 in
theorem road_main (O I P A1 A2 : Option Addr) (n m nk nq c ci cp c1 c2 : Nat) (ps ins : List TP) (pk : List Int) (lo hi : List Nat) (w : World) (h : RdIn w O I P A1 A2 n m nk nq nq c ci cp ps ins pk lo hi) (hc : n ≤ 2147483647 ∧ nk ≤ 2147483647 ∧ m ≤ 2147483647 ∧ nq ≤ 2147483647) (h0 : 0 < n + m) :
    Calls Try.prog 5 #[.slice O n c, .slice P nk cp, .slice I m ci, .slice A1 nq c1, .slice A2 nq c2] w (YesIn w) := by
  have FX : Hid (Calls Try.prog 8 #[.slice O n c] w fun e w' => (∃ b, e = .returned (.bool b)) ∧ w = w') := by
    have := fits4_any ⟨O, c, ps⟩ w h.1.1
    rw [show (RR.mk O c ps).v = .slice O n c from by rw [← h.1.2]; rfl] at this
    exact this.mono fun e w' ⟨b, he, hw, hb⟩ => ⟨⟨b, he⟩, hw⟩
  have FY : Hid (Calls Try.prog 8 #[.slice I m ci] w fun e w' => (∃ b, e = .returned (.bool b)) ∧ w = w') := by
    have := fits4_any ⟨I, ci, ins⟩ w h.2.1.1
    rw [show (RR.mk I ci ins).v = .slice I m ci from by rw [← h.2.1.2]; rfl] at this
    exact this.mono fun e w' ⟨b, he, hw, hb⟩ => ⟨⟨b, he⟩, hw⟩
  obtain ⟨⟨hx, hn⟩, ⟨hy, hm⟩, ⟨hP, hpl, hPA, hpk⟩, ⟨hs1, hl1⟩, ⟨hs2, hl2⟩⟩ := h
  have SM : Hid (Calls Try.prog 9 #[.int .i64 nq, .float .f64 4697254411347427328, .slice P nk cp, .slice (some ⟨w.heap.size + 1, 0, none⟩) 3 3] ((w.alloc (.cells #[.slice A1 nq c1, .slice A2 nq c2] 26)).alloc (.cells #[.slice O n c, .slice I m ci, .slice (some ⟨w.heap.size, 0, none⟩) 2 2] 22)) fun e w' => ((w.alloc (.cells #[.slice A1 nq c1, .slice A2 nq c2] 26)).alloc (.cells #[.slice O n c, .slice I m ci, .slice (some ⟨w.heap.size, 0, none⟩) 2 2] 22)) = w' ∧ ∃ b, e = .returned (.bool b) ∧ (b = true → RdGood ps ins lo hi nq n m pk)) := rd_some hx hy hP hn hm hs1 hs2 hl1 hl2 hc.2.1 hc.1 hc.2.2.1 (by omega)
  have KBF : Hid (∀ W : World, Mod (fun _ => False) w W → RdGood ps ins lo hi nq n m pk → Calls Try.prog 10 #[.slice O n c, .slice P nk cp, .bool true, .slice I m ci] W (fun e w' => ∃ A5 c5 rs mt, e = .returned (.tuple #[.slice A5 (n + m) c5, .int .i64 ((n + m : Nat) : Int), .bool true]) ∧ KS W.heap.size w' nq (.slice A5 (n + m) c5) rs ∧ GrownB nq (n + m) mt rs ∧ Mod (fun _ => False) W w')) := by
    intro W hW h
    obtain ⟨e1, e2, e3, e4, e5, e6, e7⟩ := h
    refine (kbuildB_at _ P I n c nk cp m ci nq ps ins (pk.map Int.toNat) W ⟨by rw [← hn]; exact (hx.mod hW).1, fun p hp => ⟨(hx.mod hW).2.1 p hp, (e1 p (by simp [hp])).1⟩⟩ ⟨by rw [← hm]; exact (hy.mod hW).1, fun p hp => ⟨(hy.mod hW).2.1 p hp, (e1 p (by simp [hp])).1⟩⟩ (by rw [List.length_map, hpl]) (by rw [ints_nat e7]; exact hP.mod hW) hPA ?_ (fun p hp => (e1 p (by simp [hp])).2) (fun p hp => (e1 p (by simp [hp])).2) (by omega) (by omega)).mono ?_
    · intro k hk
      obtain ⟨k', hk', rfl⟩ := List.mem_map.1 hk
      have := hpk k' hk'
      omega
    · rintro e w' ⟨v, rs, mt, qs, is, rfl, k1, k2, k3, k4, k5, k6, k7, ⟨A5, c5, rfl⟩⟩
      have hG := grownB_of e4.1 hn hm h0 e1 k2 k3 k4 k5 k6
      rw [hG.len] at k1 ⊢
      exact ⟨A5, c5, rs, mt, rfl, k1, hG, k7⟩
  have HS := Lib.hid (And.intro hs1 (And.intro hs2 (And.intro hl1 hl2)))
  clear hx hn hy hm hP hpl hPA hpk hs1 hl1 hs2 hl2
  have d1 : ¬ (2147483647 < (nk : Int)) := by omega
  have d2 : ¬ (2147483647 < (nq : Int)) := by omega
  have hwr : IntKind.i64.wrap ((n : Int) + (m : Int)) = (n : Int) + (m : Int) := IntWalk.i64_in _ (by omega)
  have hz1 : ((n : Int) + (m : Int) == 0) = false := by
    have : (n : Int) + (m : Int) ≠ 0 := by omega
    simpa using this
  have hN0 := Lib.hid h0
  clear h0
  have tok1 : True := trivial
  go_enter Try.func5, Try.ntmps5
  go_upto_if 72 with (first | (go_at_call 8; have _t := tok1; clear _t tok1; refine FX.out.mono ?_; rintro _ w1 ⟨⟨b1, rfl⟩, rfl⟩) | (go_at_call 8; refine FY.out.mono ?_; rintro _ w2 ⟨⟨b2, rfl⟩, rfl⟩) | (go_at_call 9; refine SM.out.mono ?_; rintro _ w4 ⟨rfl, b3, rfl, hb3⟩; have HB3 := Lib.hid hb3; clear hb3))
  all_goals first
    | (go_ret; exact ⟨rfl, Mod.refl _ _⟩)
    | skip
  cases b3 with
  | false =>
    go_wp2_with fail
    go_ret
    exact ⟨rfl, ((Mod.refl _ _).alloc _).alloc _⟩
  | true =>
    have hg := HB3.out rfl
    have HG := Lib.hid hg
    obtain ⟨N, hN⟩ : ∃ N, N = n + m := ⟨_, rfl⟩
    rw [← hN] at KBF
    have hNc : (n : Int) + (m : Int) = (N : Int) := by omega
    have hN0' : 0 < N := by rw [hN]; exact hN0.out
    have hNl : N ≤ 120 := by have := hg.2.2.2.2.1; omega
    have hq := hg.2.2.2.1
    have HNE := Lib.hid hN
    rw [hNc] at hwr hz1 
    clear hg hN
    go_upto_if 103 with (first
      | (go_at_call 10; refine (KBF.out _ (((Mod.refl _ _).alloc _).alloc _) HG.out).mono ?_; rintro _ w5 ⟨A5, c5, rs, mt, rfl, k1, hG, hm5⟩; have HK := Lib.hid (And.intro k1 (And.intro hG ((((Mod.refl (fun _ => False) w).alloc (.cells #[.slice A1 nq c1, .slice A2 nq c2] 26)).alloc (.cells #[.slice O n c, .slice I m ci, .slice (some ⟨w.heap.size, 0, none⟩) 2 2] 22)).trans hm5))); clear k1 hG hm5)
      | (go_at_call 11; refine (isK_at A5 c5 N nq (rs.map knOf) w5 (HK.out.2.1.kd (by omega) hN0') hN0' (by omega) (by omega) (HK.out.2.1.rows hq HK.out.1 (by omega))).mono ?_; rintro _ w6 ⟨rfl, hm6⟩; have H6 := Lib.hid hm6; clear hm6)
      | (go_at_call 16; refine (edged_at A5 A1 A2 c5 N nq c1 c2 lo hi (rs.map knOf) w6 (HK.out.2.1.kd (by omega) hN0') hN0' (by omega) (by omega) ((HK.out.2.1.rows hq HK.out.1 (by omega)).mod H6.out) (HS.out.1.mod (HK.out.2.2.trans H6.out)) (HS.out.2.1.mod (HK.out.2.2.trans H6.out)) HG.out.2.1 HG.out.2.2.1).mono ?_; rintro _ w7 ⟨⟨b4, rfl, hb4⟩, hm7⟩; have H7 := Lib.hid (And.intro hb4 (HK.out.2.2.trans (H6.out.trans hm7))); have H57 := Lib.hid (H6.out.trans hm7); clear hb4 hm7))
    cases b4 with
    | true =>
      go_wp2_with fail
      go_ret
      exact ⟨rfl, H7.out.2⟩
    | false =>
      have HNE2 := Lib.hid (H7.out.1 rfl)
      go_wp2_with (first
        | (go_at_call 17; refine (HK.out.2.1.kwalk hq (HK.out.1.mod H57.out) (by omega) hN0').mono ?_; rintro _ w8 ⟨A6, c6, A7, c7, gs, rfl, hm8, hs8, hp8⟩; have H8 := Lib.hid (And.intro hm8 (And.intro hs8 hp8)); clear hm8 hs8 hp8))
      obtain ⟨PL, ePL⟩ : ∃ PL, PL = mt.pts.map TP.xs := ⟨_, rfl⟩
      have h8 := H8.out
      rw [← ePL] at h8
      have hpl : PL.length = N := by have a := h8.2.2.1; have b := h8.2.1.1; omega
      have hpx : ∀ xs ∈ PL, xs.length = nq ∧ ∀ x ∈ xs, ∃ n, Wh x n := by
        rw [ePL]
        intro xs hxs
        obtain ⟨p, hp, rfl⟩ := List.mem_map.1 hxs
        obtain ⟨q1, q2⟩ := HK.out.2.1.good p hp
        exact ⟨q1, TP.gr_iff.1 q2⟩
      have hwi : mt.within lo hi = rdF lo hi PL := by
        rw [ePL]
        exact within_eq mt HK.out.2.1.good HK.out.2.1.ord HK.out.2.1.each (nel_of HK.out.2.1.len HNE2.out mt 0 (seg_root HK.out.2.1.plain))
      have HP := Lib.hid (And.intro h8 (And.intro hpl (And.intro hpx hwi)))
      have HW8 := Lib.hid (H7.out.2.trans H8.out.1)
      clear h8 hpl hpx hwi ePL
      obtain ⟨i0, hi0, hz0, hz1', hz2⟩ := info_parts info_row4
      have HI := Lib.hid (And.intro hi0 (And.intro hz0 (And.intro hz1' hz2)))
      clear hi0 hz0 hz1' hz2
      go_loopw [18, 113] (fun v i wr => ∃ k : Nat, k ≤ N ∧ i = .int .i64 k ∧ Hid (RdRow w8 wr v (rdF lo hi (PL.take k)))) (fun _ i _ => N - (intOf i).toNat)
      case atStart => exact ⟨0, Nat.zero_le _, rfl, [], World.ownsRow_nil _ _ _ _, ⟨rfl, fun i v xs h => by simp at h⟩, Mod.refl _ _⟩
      case round =>
        obtain ⟨k, hk, rfl, HR⟩ := hrel
        by_cases hlt : k < N
        · obtain ⟨bb, oo, A', n', c', xs, rfl, q1, e1, l1, s1⟩ := ptsAt_get HP.out.1.2.1 HP.out.1.2.2 hlt
          obtain ⟨x1, x2⟩ := HP.out.2.2.1 xs (List.mem_of_getElem? e1)
          have hn' : n' = nq := by have a := s1.1; simp [flts] at a; omega
          subst hn'
          obtain ⟨vals, ho, hpv, hmr⟩ := HR.out
          have q2 := (hmr.cell (lt_of_cell q1) (fun h => h)).trans q1
          have HWI : Hid (Calls Try.prog 18 #[.slice A1 n' c1, .slice A2 n' c2, .slice A' n' c'] wr fun e w' => e = .returned (.bool (decide (inBox lo hi xs))) ∧ wr = w') := within_at A1 A2 A' n' c1 c2 c' lo hi xs wr (HS.out.1.mod (HW8.out.trans hmr)) (HS.out.2.1.mod (HW8.out.trans hmr)) (s1.mod hmr) HG.out.2.1 HG.out.2.2.1 x2 (by omega)
          have HSS := Lib.hid (And.intro ho (And.intro hpv (And.intro hmr (And.intro s1 (rdF_take (lo := lo) (hi := hi) e1)))))
          obtain ⟨F, eF⟩ : ∃ F, F = rdF lo hi (PL.take k) := ⟨_, rfl⟩
          have hFl : F.length ≤ 120 := by
            rw [eF]
            have := List.length_filter_le (fun p => decide (inBox lo hi p)) (PL.take k)
            have := HP.out.2.1
            unfold rdF
            simp at *
            omega
          rw [← eF] at HSS
          have HFF := Lib.hid eF
          clear q1 e1 s1 x1 x2 ho hpv hmr eF
          have i0' : (0 : Int) ≤ k := by omega
          have i1' : (k : Int) < N := by omega
          obtain ⟨bi, ebi⟩ : ∃ bi, bi = decide (inBox lo hi xs) := ⟨_, rfl⟩
          rw [← ebi] at HWI
          have HBI := Lib.hid ebi
          clear ebi
          cases bi with
          | true =>
            have hin : inBox lo hi xs := of_decide_eq_true HBI.out.symm
            have HIN := Lib.hid hin
            clear hin
            go_wp2_with (first
              | (go_at_call 18; refine HWI.out.mono ?_; rintro _ _ ⟨rfl, rfl⟩)
              | (at_builtin; refine wpList_append_lies _ (by rfl) (.tmp 121) (.tmp 123) 22 (by rfl) w8.heap.size 26 i0 _ 1 24 Try.underlying22 HI.out.1 HI.out.2.1 HI.out.2.2.1 HI.out.2.2.2 rfl (by omega) u18 F.length vals (by rfl) (HSS.out.1.alloc _) ⟨wr.heap.size, 0, none⟩ 1 1 [.slice A' n' c'] (by rfl) (by rfl) (World.news_of_block (cs := #[.slice A' n' c']) (t := 26) (fr := (0, 0)) (heap_alloc_new wr _)) (by simp [Value.oneCell']) (by omega) (by unfold maxLen; omega) (by omega) (by have := HSS.out.2.2.1.size; simp; omega) (wr.heap.size + 1) (by simp) ?_; intro gg cap w3 hown hgrow hat hlt3; have HPU := Lib.hid (rd_push HSS.out.1 HSS.out.2.1 HSS.out.2.2.1 HSS.out.2.2.2.1 (by omega) hown hgrow); clear hown hgrow hat))
            go_roundw
            case rel =>
              refine ⟨k + 1, by omega, by go_num, ?_⟩
              rw [HSS.out.2.2.2.2, if_pos HIN.out]
              exact HPU.out
            case measure => simp [intOf]; omega
          | false =>
            have hin : ¬ inBox lo hi xs := of_decide_eq_false HBI.out.symm
            have HIN := Lib.hid hin
            clear hin
            go_wp2_with (first | (go_at_call 18; refine HWI.out.mono ?_; rintro _ _ ⟨rfl, rfl⟩))
            go_roundw
            case rel =>
              refine ⟨k + 1, by omega, by go_num, ?_⟩
              rw [HSS.out.2.2.2.2, if_neg HIN.out, List.append_nil, HFF.out]
              exact HR.out
            case measure => simp [intOf]; omega
        · obtain rfl : k = N := by omega
          have hR := HR.out
          rw [List.take_of_length_le (by rw [HP.out.2.1]; exact Nat.le_refl _)] at hR
          obtain ⟨vals, ho, hpv, hmr⟩ := hR
          obtain ⟨Aw, cw, rfl, -, hsw⟩ := own_form ho
          obtain ⟨kk, ekk⟩ : ∃ kk, kk = (rdF lo hi PL).length := ⟨_, rfl⟩
          have hkk : kk ≤ 120 := by
            rw [ekk]
            have := List.length_filter_le (fun p => decide (inBox lo hi p)) PL
            have := HP.out.2.1
            unfold rdF
            omega
          have HKW : Hid (Calls Try.prog 19 #[.slice A5 k c5, .slice A1 nq c1, .slice A2 nq c2, .int .i64 0] wr (ViTold (rdF lo hi PL) wr)) := by
            have h := kwalkIn_at A5 c5 k nq _ rs hq mt wr A1 A2 c1 c2 lo hi HK.out.2.1.len.symm (by omega) (fun x hx => .inr (HK.out.2.1.box x hx)) HK.out.2.1.some HK.out.2.1.cnt (HK.out.1.mod ((H57.out.trans H8.out.1).trans hmr)) (seg_root HK.out.2.1.plain) HK.out.2.1.good HK.out.2.1.each (HS.out.1.mod (HW8.out.trans hmr)) (HS.out.2.1.mod (HW8.out.trans hmr)) HG.out.2.1 HG.out.2.2.1
            rw [HP.out.2.2.2] at h
            exact h
          rw [← ekk] at hsw ⊢
          have HSW := Lib.hid (And.intro hsw (And.intro (hpv.mod hmr) (HW8.out.trans hmr)))
          have HEK := Lib.hid ekk
          clear ho hpv hmr hsw ekk
          go_wp2_with (first
            | (go_at_call 19; refine HKW.out.mono ?_; rintro _ w9 ⟨A9, c9, g9, rfl, hm9, hs9, hp9⟩; rw [← HEK.out] at hs9 ⊢; have H9 := Lib.hid (And.intro hm9 (And.intro hs9 hp9)); clear hm9 hs9 hp9)
            | (go_at_call 20; refine (sameRow_at A9 Aw kk c9 cw g9 vals (rdF lo hi PL) w9 H9.out.2.1 (HSW.out.1.mod H9.out.1) H9.out.2.2 (HSW.out.2.1.mod H9.out.1) (fun xs hxs => (HP.out.2.2.1 xs (List.mem_filter.1 hxs).1).2) (by omega)).mono ?_; rintro _ _ ⟨rfl, rfl⟩))
          go_ret
          exact ⟨rfl, HSW.out.2.2.trans H9.out.1⟩
end Go.Proofs.Ytmeooadgdagiiaa.W
