/- Steps of a proof, one behind another: What the walk of FnTkLate asks of the tree that KBuild tells; in plain Lean. The walk of FnTkLate: it answers true, and what came in is as it was. Conditions: none on the numbers. Conditions: as each theorem says. -/
import Derived.Test.YtmeooadgdagiiaaMl2

namespace Go.Proofs.Ytmeooadgdagiiaa.W
open Go.RowKit Lox
set_option linter.unusedVariables false

/-- A tree of memory by the places at which it is written down. -/
def itOf : MT → Nat → IT
  | .nil, _ => .nil
  | .node _ p d _ l r, i => .node i p.xs d (itOf l (i + 1)) (itOf r (i + 1 + l.count))

theorem itOf_T : ∀ (t : MT) (i : Nat), (itOf t i).T = t.T.map TP.xs := by
  intro t
  induction t with
  | nil => intro i; rfl
  | node g p d bx l r ihl ihr => intro i; simp only [itOf, IT.T, MT.T, KB.T.map, ihl, ihr]

theorem itOf_all (t : MT) (i : Nat) : (itOf t i).T.all = t.pts.map TP.xs := by rw [itOf_T, KB.T.map_all, MT.pts_all]

theorem itOf_ids : ∀ (t : MT) (i : Nat), (itOf t i).ids.Nodup ∧ ∀ k ∈ (itOf t i).ids, i ≤ k ∧ k < i + t.count := by
  intro t
  induction t with
  | nil => intro i; exact ⟨List.nodup_nil, fun k hk => by cases hk⟩
  | node g p d bx l r ihl ihr =>
    intro i
    obtain ⟨a1, a2⟩ := ihl (i + 1)
    obtain ⟨b1, b2⟩ := ihr (i + 1 + l.count)
    refine ⟨List.nodup_cons.2 ⟨fun h => ?_, List.nodup_append.2 ⟨a1, b1, fun x hx y hy e => ?_⟩⟩, fun k hk => ?_⟩
    · rcases List.mem_append.1 h with h | h
      · have := a2 i h; omega
      · have := b2 i h; omega
    · have := a2 x hx
      have := b2 y hy
      omega
    · simp only [MT.count]
      rcases List.mem_cons.1 hk with rfl | hk
      · omega
      · rcases List.mem_append.1 hk with hk | hk
        · have := a2 k hk; omega
        · have := b2 k hk; omega

/-- Its boxes. -/
def bxOf (dims : Nat) (b : Bool) (t : MT) : Prop := if b = true then t.BoxOfs dims else t.bare

theorem itOf_rep {dims : Nat} {b : Bool} {R : List PR} : ∀ (t : MT) (i : Nat), (∀ j x, (t.flat i)[j]? = some x → R[i + j]? = some x) → bxOf dims b t → Rep dims b R (itOf t i) (t.at i) := by
  intro t
  induction t with
  | nil => intro i _ _; rfl
  | node g p d bx l r ihl ihr =>
    intro i h hb
    have h0 := h 0 _ rfl
    have hbl : bxOf dims b l ∧ bxOf dims b r ∧ BxOk dims b ((l.pts ++ p :: r.pts).map TP.xs) (boxMn bx) (boxMx bx) := by
      unfold bxOf BxOk at *
      cases b with
      | true =>
        obtain ⟨⟨q, rfl, h1⟩, h2, h3⟩ := hb
        exact ⟨h2, h3, h1⟩
      | false =>
        obtain ⟨rfl, h2, h3⟩ := hb
        exact ⟨h2, h3, rfl, rfl⟩
    refine ⟨rfl, _, h0, rfl, rfl, ?_, ihl (i + 1) (fun j x hj => ?_) hbl.1, ihr (i + 1 + l.count) (fun j x hj => ?_) hbl.2.1⟩
    · have := hbl.2.2
      rw [show (IT.node i p.xs d (itOf l (i + 1)) (itOf r (i + 1 + l.count))).T.all = (l.pts ++ p :: r.pts).map TP.xs from itOf_all (.node g p d bx l r) i]
      exact this
    · have hl : j < l.count := by rw [← MT.flat_len l (i + 1)]; exact (List.getElem?_eq_some_iff.1 hj).1
      have := h (j + 1) x (by show (l.flat (i + 1) ++ r.flat (i + 1 + l.count))[j]? = _; rw [List.getElem?_append_left (by rw [MT.flat_len]; exact hl)]; exact hj)
      rw [show i + 1 + j = i + (j + 1) from by omega]
      exact this
    · have := h (l.count + j + 1) x (by
        show (l.flat (i + 1) ++ r.flat (i + 1 + l.count))[l.count + j]? = _
        rw [List.getElem?_append_right (by rw [MT.flat_len]; omega), MT.flat_len, show l.count + j - l.count = j from by omega]
        exact hj)
      rw [show i + 1 + l.count + j = i + (l.count + j + 1) from by omega]
      exact this

/-- What the law's look at the points tells. -/
def LtGood (ps ins : List TP) (nq n m : Nat) (pk : List Int) : Prop :=
  (∀ p ∈ ps ++ ins, p.xs.length = nq ∧ p.Gr) ∧ (0 < nq ∧ nq ≤ 4) ∧ n + m ≤ 120 ∧ pk.length ≤ 80 ∧ ∀ k ∈ pk, 0 ≤ k

/-- The tree that the points make, and the one with further points. -/
noncomputable def ltT (dims n : Nat) (ps ins : List TP) (pk : List Int) : KB.T (List Nat) := KB.inss leX dims (KB.build leX dims n (ps.map TP.xs) (pk.map Int.toNat) 0).1 (ins.map TP.xs)

theorem ltT_snoc (dims n : Nat) (ps ins : List TP) (pk : List Int) (q : TP) : ltT dims n ps (ins ++ [q]) pk = KB.ins leX dims q.xs 0 (ltT dims n ps ins pk) := by
  unfold ltT KB.inss
  rw [List.map_append, List.foldl_append]
  rfl

/-- Such a tree in memory's rows. -/
structure LtRow (W : World) (dims n N g c : Nat) (b : Bool) (ps ins : List TP) (pk : List Int) (rs : List KR) (T : IT) : Prop where
  ks : KS 0 W dims (.slice (some ⟨g, 0, none⟩) N c) rs
  len : rs.length = N
  rep : Rep dims b (rs.map KR.plain) T 0
  nd : T.ids.Nodup
  tr : T.T = ltT dims n ps ins pk

theorem LtRow.mod {W W' : World} {dims n N g c : Nat} {b : Bool} {ps ins : List TP} {pk : List Int} {rs : List KR} {T : IT} (h : LtRow W dims n N g c b ps ins pk rs T) (hm : Mod (fun _ => False) W W') : LtRow W' dims n N g c b ps ins pk rs T :=
  ⟨h.ks.mod hm, h.len, h.rep, h.nd, h.tr⟩

theorem ltT_facts {dims n : Nat} {ps ins : List TP} {pk : List Int} (hd : 0 < dims) (hn : ps.length = n) (hg : ∀ p ∈ ps ++ ins, p.xs.length = dims ∧ p.Gr) : (ltT dims n ps ins pk).Each (fun _ d => d < dims) ∧ (∀ p ∈ (ltT dims n ps ins pk).all, p.length = dims ∧ ∀ x ∈ p, ∃ n, Wh x n) ∧ (ltT dims n ps ins pk).all.length = n + ins.length := by
  obtain ⟨a1, a2, a3⟩ := KB.build_all leX dims hd n (ps.map TP.xs) (pk.map Int.toNat) 0 (by rw [List.length_map]; omega) hd
  have hp : (ltT dims n ps ins pk).all.Perm (ps.map TP.xs ++ ins.map TP.xs) := (KB.inss_perm leX dims _ _).trans (a1.append_right _)
  refine ⟨KB.inss_each leX dims hd _ _ a3, fun p h => ?_, ?_⟩
  · have h := hp.mem_iff.1 h
    rw [← List.map_append] at h
    obtain ⟨q, hq, rfl⟩ := List.mem_map.1 h
    exact ⟨(hg q hq).1, TP.gr_iff.1 (hg q hq).2⟩
  · rw [hp.length_eq, List.length_append, List.length_map, List.length_map, hn]

theorem lt_map {dims n : Nat} {ps ins qs is : List TP} {pk : List Int} {mt : MT} (hT : mt.T = KB.inss leB dims (KB.build leB dims n qs (pk.map Int.toNat) 0).1 is) (hqs : qs.map TP.xs = ps.map TP.xs) (his : is.map TP.xs = ins.map TP.xs) : mt.T.map TP.xs = ltT dims n ps ins pk := by
  have h : ∀ (d : Nat) (a b : TP), leB d a b = leX d a.xs b.xs := fun d a b => rfl
  unfold ltT
  rw [← hqs, ← his, hT, ← KB.inss_map TP.xs h, KB.build_map TP.xs h]

/-- What KBuild's rows are. -/
theorem lt_row {W : World} {dims n m N B c : Nat} {b : Bool} {A : Option Addr} {ps ins qs is : List TP} {pk : List Int} {mt : MT} {rs : List KR} (hd : 0 < dims) (hn : ps.length = n) (hm : ins.length = m) (hN : N = n + m) (h0 : 0 < n) (hnb : N ≤ 2147483647) (hall : ∀ p ∈ ps ++ ins, p.xs.length = dims ∧ p.Gr)
    (hk : KS B W dims (.slice A rs.length c) rs) (hr : rs.map KR.plain = mt.flat 0) (hT : mt.T = KB.inss leB dims (KB.build leB dims n qs (pk.map Int.toNat) 0).1 is) (hb : bxOf dims b mt) (hqs : qs.map TP.xs = ps.map TP.xs) (his : is.map TP.xs = ins.map TP.xs) :
    ∃ (g : Nat) (T : IT), A = some ⟨g, 0, none⟩ ∧ rs.length = N ∧ LtRow W dims n N g c b ps ins pk rs T ∧ IsKd (rs.map knOf) N dims := by
  have hql : qs.length = n := by have := congrArg List.length hqs; simpa [hn] using this
  obtain ⟨a1, a2, a3⟩ := KB.build_all leB dims hd n qs (pk.map Int.toNat) 0 (by omega) hd
  have hx := lt_map (ps := ps) (ins := ins) hT hqs his
  obtain ⟨f1, f2, f3⟩ := ltT_facts (n := n) (pk := pk) hd hn hall
  have hpl : mt.pts.map TP.xs = (ltT dims n ps ins pk).all := by rw [← hx, KB.T.map_all, MT.pts_all]
  have hc : mt.count = N := by
    have := congrArg List.length hpl
    rw [List.length_map, MT.count_pts, f3] at this
    omega
  have hl : rs.length = N := by
    have := congrArg List.length hr
    rw [List.length_map, MT.flat_len] at this
    omega
  have hgood : ∀ p ∈ mt.pts, p.xs.length = dims ∧ p.Gr := fun p hp => by
    have h := f2 p.xs (by rw [← hpl]; exact List.mem_map_of_mem hp)
    exact ⟨h.1, TP.gr_iff.2 h.2⟩
  have hat : mt.at 0 = 0 := MT.at_zero (by omega)
  obtain ⟨g, cap, e, -, -⟩ := hk.own.form (by omega)
  injection e with e1 e2 e3
  have hi := (itOf_ids mt 0).1
  have hrep : Rep dims b (rs.map KR.plain) (itOf mt 0) 0 := by
    have := itOf_rep (dims := dims) (b := b) (R := rs.map KR.plain) mt 0 (fun j x hj => by rw [hr, Nat.zero_add]; exact hj) hb
    rw [hat] at this
    exact this
  refine ⟨g, itOf mt 0, e1, hl, ⟨?_, hl, hrep, hi, by rw [itOf_T, hx]⟩, isKd_of hl.symm (by omega) hnb hr hgood (by rw [hT]; exact KB.inss_ord leB dims is _ a2) (by rw [hT]; exact KB.inss_each leB dims hd is _ a3)⟩
  rw [← hl, ← e1]
  exact ks_low hk

/-- Put's word, as the loop takes it. -/
theorem lt_put {w w' : World} {dims n g c k : Nat} {b : Bool} {ps ins : List TP} {pk : List Int} {rs : List KR} {T : IT} {q : TP} {e : Ending} (h0 : 0 < n) (h : LtRow w dims n (n + k) g c b ps (ins.take k) pk rs T) (hq : ins[k]? = some q) (hp : PutTold dims b q T rs w e w') :
    ∃ (g' c' : Nat) (rs' : List KR) (T' : IT), e = .returned (.slice (some ⟨g', 0, none⟩) (n + (k + 1)) c') ∧ LtRow w' dims n (n + (k + 1)) g' c' b ps (ins.take (k + 1)) pk rs' T' ∧ Mod (fun _ => False) w w' := by
  obtain ⟨A, c', rs', T', e1, e2, e3, e4, e5, e6, e7⟩ := hp
  obtain ⟨g', cap, ee, -, -⟩ := e2.own.form (by omega)
  injection ee with ee1 ee2 ee3
  have hl : rs'.length = n + (k + 1) := by have := h.len; omega
  have hk := (List.getElem?_eq_some_iff.1 hq)
  obtain ⟨hk1, hk2⟩ := hk
  refine ⟨g', c', rs', T', by rw [e1, ee1, hl], ⟨by rw [← hl, ← ee1]; exact e2, hl, e4, e6, ?_⟩, e7⟩
  rw [e5, h.tr, List.take_succ_eq_append_getElem hk1, hk2, ltT_snoc]
end Go.Proofs.Ytmeooadgdagiiaa.W

namespace Go.Proofs.Ytmeooadgdagiiaa.W
open Go.RowKit Lox
set_option linter.unusedVariables false
attribute [local go_sem] run_store_flt run_store_fn

/-- What the law answers. -/
def YesLt (w : World) (e : Ending) (w' : World) : Prop := e = .returned (.bool true) ∧ Mod (fun _ => False) w w'

/-- What KBuild tells here. -/
def LtTold (dims n N : Nat) (b : Bool) (ps ins : List TP) (pk : List Int) (w : World) (e : Ending) (w' : World) : Prop :=
  ∃ (g c' : Nat) (rs : List KR) (T : IT), e = .returned (.tuple #[.slice (some ⟨g, 0, none⟩) N c', .int .i64 (N : Int), .bool true]) ∧ LtRow w' dims n N g c' b ps ins pk rs T ∧ IsKd (rs.map knOf) N dims ∧ Mod (fun _ => False) w w'

theorem kb_late {O P I : Option Addr} {n c nk cp m ci dims N : Nat} {b : Bool} {ps ins : List TP} {pk : List Int} {w : World} (hp : PRows w O n ps dims) (hi : PRows w I m ins dims) (hnp : ps.length = n) (hmi : ins.length = m) (hN : N = n + m) (h0 : 0 < n) (hpl : pk.length = nk) (hP : Sl w P nk 1 (ints pk)) (hPA : P = none → cp = 0) (hpk : ∀ k ∈ pk, k ≤ 9223372036854775807) (hg : LtGood ps ins dims n m pk) :
    Calls Try.prog 10 #[.slice O n c, .slice P nk cp, .bool b, .slice I m ci] w (LtTold dims n N b ps ins pk w) := by
  obtain ⟨e1, e4, e5, e6, e7⟩ := hg
  have hks : ∀ k ∈ pk.map Int.toNat, k ≤ 9223372036854775807 := fun k hk => by
    obtain ⟨k', hk', rfl⟩ := List.mem_map.1 hk
    have := hpk k' hk'
    omega
  cases b with
  | true =>
    refine (kbuildB_at O P I n c nk cp m ci dims ps ins (pk.map Int.toNat) w hp hi (by rw [List.length_map, hpl]) (by rw [ints_nat e7]; exact hP) hPA hks (fun p hp => (e1 p (by simp [hp])).2) (fun p hp => (e1 p (by simp [hp])).2) (by omega) (by omega)).mono ?_
    rintro e w' ⟨v, rs, mt, qs, is, rfl, k1, k2, k3, k4, k5, k6, k7, ⟨A5, c5, rfl⟩⟩
    obtain ⟨g, T, rfl, hl, hr, hk⟩ := lt_row (b := true) e4.1 hnp hmi hN h0 (by omega) e1 k1 k2 k3 k4 k5 k6
    exact ⟨g, c5, rs, T, by rw [hl, hN], hr, hk, k7⟩
  | false =>
    refine (kbuild_at O P I n c nk cp m ci dims ps ins (pk.map Int.toNat) w hp hi (by rw [List.length_map, hpl]) (by rw [ints_nat e7]; exact hP) hPA hks (fun p hp => (e1 p (by simp [hp])).2) (fun p hp => (e1 p (by simp [hp])).2) (by omega) (by omega)).mono ?_
    rintro e w' ⟨v, rs, mt, qs, is, rfl, k1, k2, k3, k4, k5, k6, k7, ⟨A5, c5, rfl⟩⟩
    obtain ⟨g, T, rfl, hl, hr, hk⟩ := lt_row (b := false) e4.1 hnp hmi hN h0 (by omega) e1 k1 k2 k3 k4 k5 k6
    exact ⟨g, c5, rs, T, by rw [hl, hN], hr, hk, k7⟩

set_option maxRecDepth 100000 in
set_option maxHeartbeats 8000000 in
theorem fnTkLate_at (x y : RR) (P : Option Addr) (cp nk : Nat) (pk : List Int) (bb : Bool) (w : World) (hx : x.Ok w) (hy : y.Ok w) (hP : Sl w P nk 1 (ints pk)) (hPA : P = none → cp = 0) (hnk : nk ≤ 9223372036854775807) (hpk : ∀ k ∈ pk, k ≤ 9223372036854775807) :
    Calls Try.prog 3 #[x.v, .slice P nk cp, .bool bb, y.v] w (YesLt w) := by
  have hpl : pk.length = nk := by have := hP.1; simpa [ints] using this
  obtain ⟨O, c, ps⟩ := x
  obtain ⟨I, ci, ins⟩ := y
  obtain ⟨n, hn⟩ : ∃ n, ps.length = n := ⟨_, rfl⟩
  obtain ⟨m, hm⟩ : ∃ m, ins.length = m := ⟨_, rfl⟩
  have ex : (RR.mk O c ps).v = .slice O n c := by rw [← hn]; rfl
  have ey : (RR.mk I ci ins).v = .slice I m ci := by rw [← hm]; rfl
  have hnl : n ≤ 9223372036854775807 := by rw [← hn]; exact hx.2.2
  have hml : m ≤ 9223372036854775807 := by rw [← hm]; exact hy.2.2
  have FX : Hid (Calls Try.prog 8 #[.slice O n c] w (FitsTold ⟨O, c, ps⟩ w)) := by show Calls _ _ _ _ _; rw [← ex]; exact fits4_any _ w hx
  have FY : Hid (Calls Try.prog 8 #[.slice I m ci] w (FitsTold ⟨I, ci, ins⟩ w)) := by show Calls _ _ _ _ _; rw [← ey]; exact fits4_any _ w hy
  rw [ex, ey]
  have HX := Lib.hid (And.intro hx (And.intro hy (And.intro hP (And.intro hPA (And.intro hpk (And.intro hpl (And.intro hn hm)))))))
  clear ex ey hx hy hP hPA hpk hpl hn hm
  have tok1 : True := trivial
  by_cases hbig : 2147483647 < nk
  · go_enter Try.func3, Try.ntmps3
    go_wp2_with (first | (go_at_call 8; have _t := tok1; clear _t tok1; refine FX.out.mono ?_; rintro _ w1 ⟨b1, rfl, rfl, hb1⟩; have HB1 := Lib.hid hb1; clear hb1))
    all_goals
      go_ret
      exact ⟨rfl, Mod.refl _ _⟩
  · by_cases h0 : n = 0
    · subst h0
      go_enter Try.func3, Try.ntmps3
      go_wp2_with (first | (go_at_call 8; have _t := tok1; clear _t tok1; refine FX.out.mono ?_; rintro _ w1 ⟨b1, rfl, rfl, hb1⟩; have HB1 := Lib.hid hb1; clear hb1) | (go_at_call 8; refine FY.out.mono ?_; rintro _ w2 ⟨b2, rfl, rfl, hb2⟩; have HB2 := Lib.hid hb2; clear hb2))
      all_goals
        go_ret
        exact ⟨rfl, Mod.refl _ _⟩
    · have hx0 : 0 < ps.length := by rw [HX.out.2.2.2.2.2.2.1]; omega
      obtain ⟨p0, hp0⟩ : ∃ p0, ps[0]? = some p0 := ⟨_, List.getElem?_eq_getElem hx0⟩
      have hslx : Sl w O n 1 (ps.map TP.v) := by rw [← HX.out.2.2.2.2.2.2.1]; exact HX.out.1.1
      obtain ⟨b, o, eO, hcell⟩ := hslx.2 (by omega)
      subst eO
      have HSX := Lib.hid hslx
      have HSY : Hid (Sl w I m 1 (ins.map TP.v)) := by have h := HX.out.2.1.1; rw [show (RR.mk I ci ins).ps.length = m from HX.out.2.2.2.2.2.2.2] at h; exact h
      obtain ⟨q0, hq0⟩ : ∃ q0, p0.xs.length = q0 := ⟨_, rfl⟩
      have c0 : w.cell? ⟨b, o, none⟩ = some (.slice p0.A q0 p0.c) := by
        have := hcell 0 p0.v (by rw [List.getElem?_map, hp0]; rfl)
        rw [Nat.add_zero] at this
        rw [this, ← hq0]; rfl
      have e0 : ((n : Int) == 0) = false := by
        have : (n : Int) ≠ 0 := by omega
        simpa using this
      have hn0 : 0 < n := by omega
      have hbl := lt_of_cell c0
      have SM : Hid (n ≤ 2147483647 → m ≤ 2147483647 → Calls Try.prog 9 #[.int .i64 q0, .float .f64 4697254411347427328, .slice P nk cp, .slice (some ⟨w.heap.size, 0, none⟩) 2 2] (w.alloc (.cells #[.slice (some ⟨b, o, none⟩) n c, .slice I m ci] 22)) (fun e w' => (w.alloc (.cells #[.slice (some ⟨b, o, none⟩) n c, .slice I m ci] 22)) = w' ∧ ∃ b3, e = .returned (.bool b3) ∧ (b3 = true → LtGood ps ins q0 n m pk))) := by
        intro h1 h2
        have hm2 : Mod (fun _ => False) w (w.alloc (.cells #[.slice (some ⟨b, o, none⟩) n c, .slice I m ci] 22)) := (Mod.refl _ _).alloc _
        obtain ⟨g1, g2, g3, g4, g5, g6, g7, g8⟩ := HX.out
        refine (some_at _ P 2 2 nk cp q0 [⟨some ⟨b, o, none⟩, c, ps⟩, ⟨I, ci, ins⟩] pk _ ?_ (by omega) ?_ (g3.mod hm2) (by omega)).mono ?_
        · have hb := Blk.new' w #[.slice (some ⟨b, o, none⟩) n c, .slice I m ci] 22
          refine ⟨rfl, fun _ => ⟨w.heap.size, 0, rfl, fun j u hu => ?_⟩⟩
          rw [Nat.zero_add]
          exact hb.at (by rw [← hu]; simp only [List.map_cons, List.map_nil, RR.v, g7, g8])
        · intro z hz
          rcases List.mem_cons.1 hz with rfl | hz
          · exact ⟨g1.mod hm2, by show ps.length ≤ _; omega⟩
          · rw [List.mem_singleton.1 hz]
            exact ⟨g2.mod hm2, by show ins.length ≤ _; omega⟩
        · rintro e w' ⟨h3, b3, h4, h5⟩
          refine ⟨h3, b3, h4, fun hb => ?_⟩
          obtain ⟨k1, k2, k3, k4, k5⟩ := h5 hb
          obtain ⟨a1, a2⟩ := k1 _ (List.mem_cons_self ..)
          obtain ⟨a3, -⟩ := k1 _ (List.mem_cons_of_mem _ (List.mem_cons_self ..))
          refine ⟨fun p hp => ?_, by omega, by simp [many, g7, g8] at k3; omega, k4, k5⟩
          rcases List.mem_append.1 hp with hp | hp
          · exact ⟨by have := (a1 p hp).1; omega, TP.gr_of (a1 p hp).2⟩
          · exact ⟨by have := (a3 p hp).1; omega, TP.gr_of (a3 p hp).2⟩
      obtain ⟨N, hNe⟩ : ∃ N, N = n + m := ⟨_, rfl⟩
      have KB1 : Hid (LtGood ps ins q0 n m pk → Calls Try.prog 10 #[.slice (some ⟨b, o, none⟩) n c, .slice P nk cp, .bool bb, .slice none 0 0] (w.alloc (.cells #[.slice (some ⟨b, o, none⟩) n c, .slice I m ci] 22)) (LtTold q0 n n bb ps [] pk (w.alloc (.cells #[.slice (some ⟨b, o, none⟩) n c, .slice I m ci] 22)))) := by
        intro hg
        have hW : Mod (fun _ => False) w (w.alloc (.cells #[.slice (some ⟨b, o, none⟩) n c, .slice I m ci] 22)) := (Mod.refl _ _).alloc _
        obtain ⟨g1, g2, g3, g4, g5, g6, g7, g8⟩ := HX.out
        obtain ⟨e1, e4, e5, e6, e7⟩ := hg
        exact kb_late (m := 0) (ins := []) ⟨HSX.out.mod hW, fun p hp => ⟨(g1.mod hW).2.1 p hp, (e1 p (by simp [hp])).1⟩⟩ ⟨⟨rfl, fun h => by omega⟩, fun p hp => by cases hp⟩ g7 rfl rfl hn0 g6 (g3.mod hW) g4 g5 ⟨fun p hp => e1 p (by simp at hp; simp [hp]), e4, by omega, e6, e7⟩
      have KB2 : Hid (LtGood ps ins q0 n m pk → ∀ W : World, Mod (fun _ => False) w W → Calls Try.prog 10 #[.slice (some ⟨b, o, none⟩) n c, .slice P nk cp, .bool bb, .slice I m ci] W (LtTold q0 n N bb ps ins pk W)) := by
        intro hg W hW
        obtain ⟨g1, g2, g3, g4, g5, g6, g7, g8⟩ := HX.out
        exact kb_late ⟨HSX.out.mod hW, fun p hp => ⟨(g1.mod hW).2.1 p hp, (hg.1 p (by simp [hp])).1⟩⟩ ⟨HSY.out.mod hW, fun p hp => ⟨(g2.mod hW).2.1 p hp, (hg.1 p (by simp [hp])).1⟩⟩ g7 g8 hNe hn0 g6 (g3.mod hW) g4 g5 hg
      have HN := Lib.hid hNe
      clear hx0 hp0 hslx hcell hq0 hNe
      have hdk : decide ((2147483647 : Int) < (nk : Int)) = false := decide_eq_false (by omega)
      have i0 : (0 : Int) < n := by omega
      go_enter Try.func3, Try.ntmps3
      go_upto_if 47 with (first
        | (go_at_call 8; have _t := tok1; clear _t tok1; refine FX.out.mono ?_; rintro _ w1 ⟨b1, rfl, rfl, hb1⟩; have HB1 := Lib.hid hb1; clear hb1)
        | (go_at_call 8; refine FY.out.mono ?_; rintro _ w2 ⟨b2, rfl, rfl, hb2⟩; have HB2 := Lib.hid hb2; clear hb2)
        | (go_at_call 9; refine (SM.out (by have h1 : ps.length ≤ 2147483647 := (HB1.out (by first | assumption | exact not_false (by assumption))).1; have h2 := HX.out.2.2.2.2.2.2.1; omega) (by have h1 : ins.length ≤ 2147483647 := (HB2.out (by first | assumption | exact not_false (by assumption))).1; have h2 := HX.out.2.2.2.2.2.2.2; omega)).mono ?_; rintro _ w3 ⟨rfl, b3, rfl, hb3⟩; have HB3 := Lib.hid hb3; clear hb3))
      all_goals first
        | (go_ret; exact ⟨rfl, Mod.refl _ _⟩)
        | skip
      cases b3 with
      | false =>
        go_wp2_with fail
        go_ret
        exact ⟨rfl, (Mod.refl _ _).alloc _⟩
      | true =>
        have HG := Lib.hid (HB3.out rfl)
        have hq4 := HG.out.2.1
        have hnm : n + m ≤ 120 := HG.out.2.2.1
        have hN1 : 0 < N ∧ N ≤ 120 := by have := HN.out; omega
        go_upto_if 86 with (first
          | (go_at_call 10; (with_reducible refine (KB1.out HG.out).mono ?_); rintro _ w5 ⟨g1, c1, rs1, T1, rfl, hr1, hk1, hm1⟩; have HW5 := Lib.hid (And.intro hr1 (And.intro hk1 (((Mod.refl (fun _ => False) w).alloc (.cells #[.slice (some ⟨b, o, none⟩) n c, .slice I m ci] 22)).trans hm1))); clear hr1 hk1 hm1)
          | (go_at_call 10; (with_reducible refine (KB2.out HG.out _ HW5.out.2.2).mono ?_); rintro _ w6 ⟨g2, c2, rs2, T2, rfl, hr2, hk2, hm2⟩; have HW6 := Lib.hid (And.intro hr2 (And.intro hk2 (And.intro hm2 (HW5.out.2.2.trans hm2)))); have c06 := ((HW5.out.2.2.trans hm2).cell hbl (fun h => h)).trans c0; clear hr2 hk2 hm2)
          | (go_at_call 11; refine (isK_at (some ⟨g1, 0, none⟩) c1 n q0 (rs1.map knOf) w6 HW5.out.2.1 hn0 (by omega) (by omega) (knodes_of (HW5.out.1.ks.mod HW6.out.2.2.1) HW5.out.1.len.symm (by omega) (by have := HW5.out.1.len; omega))).mono ?_; rintro _ w7 ⟨rfl, hm7⟩; have H7 := Lib.hid (And.intro (HW6.out.2.2.2.trans hm7) hm7); clear hm7))
        have hm7 := H7.out.1
        have hrow : LtRow w7 q0 n n g1 c1 bb ps [] pk rs1 T1 := HW5.out.1.mod (HW6.out.2.2.1.trans H7.out.2)
        have HRW := Lib.hid hrow
        clear c06 c0 hm7 hrow
        go_wp2_with fail
        go_loopw [9, 89] (fun v i wr => ∃ k : Nat, k ≤ m ∧ i = .int .i64 k ∧ Hid (∃ (g c : Nat) (rs : List KR) (T : IT), v = .slice (some ⟨g, 0, none⟩) (n + k) c ∧ LtRow wr q0 n (n + k) g c bb ps (ins.take k) pk rs T ∧ Mod (fun _ => False) w wr ∧ Mod (fun _ => False) w7 wr)) (fun _ i _ => m - (intOf i).toNat)
        case atStart => exact ⟨0, Nat.zero_le _, rfl, g1, c1, rs1, T1, rfl, by rw [List.take_zero]; exact HRW.out, H7.out.1, Mod.refl _ _⟩
        case round =>
          obtain ⟨k, hk, rfl, HR⟩ := hrel
          obtain ⟨g, cc, rs, T, rfl, hr, hmw, hm7⟩ := HR.out
          have HRR := Lib.hid (And.intro hr (And.intro hmw hm7))
          clear hr hmw hm7
          by_cases hlt : k < m
          · obtain ⟨bi, oi, v, eI, ev, cv⟩ := (HSY.out.mod HRR.out.2.1).at1 hlt
            rw [List.getElem?_map] at ev
            obtain ⟨q, hq⟩ : ∃ q, ins[k]? = some q := ⟨_, List.getElem?_eq_getElem (by rw [HX.out.2.2.2.2.2.2.2]; exact hlt)⟩
            rw [hq] at ev
            have hqm := List.mem_of_getElem? hq
            have hqg := HG.out.1 q (List.mem_append.2 (.inr hqm))
            obtain rfl : TP.v q = v := by simpa using ev
            replace cv : wr.cell? ⟨bi, oi + k, none⟩ = some (.slice q.A q0 q.c) := by rw [cv, TP.v, hqg.1]
            have HF := ltT_facts (n := n) (ps := ps) (pk := pk) hq4.1 HX.out.2.2.2.2.2.2.1 (fun p hp => HG.out.1 p (by
              rcases List.mem_append.1 hp with hp | hp
              · exact List.mem_append.2 (.inl hp)
              · exact List.mem_append.2 (.inr (List.mem_of_mem_take hp))) : ∀ p ∈ ps ++ ins.take k, p.xs.length = q0 ∧ p.Gr)
            have hT := HRR.out.1.tr
            have HPUT : Hid (Calls Try.prog 12 #[.slice (some ⟨g, 0, none⟩) (n + k) cc, .slice q.A q0 q.c, .bool bb] wr (PutTold q0 bb q T rs wr)) := by
              refine put_at (some ⟨g, 0, none⟩) (n + k) cc q0 q bb T rs wr HRR.out.1.ks HRR.out.1.len.symm (by omega) (by omega) ⟨hq4.1, by omega⟩ ⟨hqg.1, ((HX.out.2.1.2.1 q hqm).mod HRR.out.2.1).1⟩ hqg.2 HRR.out.1.rep ?_ HRR.out.1.nd (by rw [hT]; exact HF.1) (by rw [hT]; exact HF.2.1)
              rintro rfl
              have h := HF.2.2
              rw [← hT] at h
              simp [IT.T, KB.T.all] at h
              omega
            have HQ := Lib.hid hq
            clear ev hqm hqg HF hT hq
            have i3 : (0 : Int) ≤ k := by omega
            have i4 : (k : Int) < m := by omega
            go_wp2_with (go_at_call 12; (with_reducible refine HPUT.out.mono ?_); intro e w8 hp8; obtain ⟨g', c', rs', T', rfl, hr', hm8⟩ := lt_put hn0 HRR.out.1 HQ.out hp8; have H8 := Lib.hid (And.intro hr' (And.intro (HRR.out.2.1.trans hm8) (HRR.out.2.2.trans hm8))); clear hp8 hr' hm8)
            go_roundw
            case rel =>
              (repeat apply Exists.intro)
              subst eI
              exact ⟨⟨k + 1, by omega, by go_num, g', c', rs', T', rfl, H8.out⟩, rfl⟩
            case measure => simp [intOf]; omega
          · obtain rfl : k = m := by omega
            have hr : LtRow wr q0 n N g cc bb ps ins pk rs T := by
              have h := HRR.out.1
              rw [List.take_of_length_le (by rw [HX.out.2.2.2.2.2.2.2]; exact Nat.le_refl _), ← HN.out] at h
              exact h
            have hTT : T2.T = T.T := by rw [HW6.out.1.tr, hr.tr]
            have HF := ltT_facts (n := n) (ps := ps) (pk := pk) hq4.1 HX.out.2.2.2.2.2.2.1 (fun p hp => HG.out.1 p hp : ∀ p ∈ ps ++ ins, p.xs.length = q0 ∧ p.Gr)
            have hnk2 : n + k = N := HN.out.symm
            rw [hnk2]
            have HE := Lib.hid (And.intro (HW6.out.1.mod (H7.out.2.trans HRR.out.2.2)) (And.intro hr (And.intro hTT HF)))
            clear hr hTT HF
            go_wp2_with (first
              | (go_at_call 13; refine (vwalk_at (some ⟨g2, 0, none⟩) c2 N (rs2.map knOf) _ HW6.out.2.1.len hN1.1 (by omega) (knodes_of HE.out.1.ks HE.out.1.len.symm (by omega) (by have := HE.out.1.len; omega))).mono ?_; rintro _ w8 ⟨A1, c1', m1, A2, c2', os, ds, b8, rfl, hM, hs1, hs2, hb, hy⟩; obtain rfl : b8 = true := (by obtain ⟨s, q1, q2, q3⟩ := HW6.out.2.1.walk; exact hy hN1.1 s q1 q2 q3); have HM8 := Lib.hid hM; clear hM hs1 hs2 hb hy)
              | (go_at_call 14; refine (same_tree q0 N g2 g c2 cc bb rs2 rs ⟨hq4.1, by omega⟩ hN1.1 (by omega) T2 T w8 (HE.out.1.mod HM8.out).ks (HE.out.2.1.mod HM8.out).ks HE.out.1.len HE.out.2.1.len HE.out.1.rep HE.out.2.1.rep HE.out.2.2.1 (by rw [HE.out.1.tr]; exact HE.out.2.2.2.2.1)).mono ?_; rintro _ w9 ⟨rfl, hm9⟩; have HM9 := Lib.hid hm9; clear hm9))
            go_ret
            exact ⟨rfl, HRR.out.2.1.trans (HM8.out.trans HM9.out)⟩
end Go.Proofs.Ytmeooadgdagiiaa.W
