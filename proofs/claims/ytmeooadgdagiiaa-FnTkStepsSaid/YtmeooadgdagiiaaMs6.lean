/- Steps of a proof, one behind another: The array of points that a k-d tree is built of: Len and Less. Which function a method of the k-d tree's doors is. The walk of Partition over a window of the array of points. The walks of the k-d tree's list of points whose pivots are picked by numbers: Len, Index, Slice, Pivot. k-d trees as New and Insert make them, in memory. Conditions: as each theorem says. -/
import Derived.Test.YtmeooadgdagiiaaMs5
import Derived.Deep.QuietTactic

namespace Go.Proofs.Ytmeooadgdagiiaa
open Go.RowKit Lox
set_option linter.unusedVariables false
attribute [local go_sem] run_store_flt run_store_fn

/-- The bits of a point's number. -/
def TP.n (p : TP) (d : Nat) : Nat := (p.xs[d]?).getD 0

/-- x's number on plane d is not above p's, by bits: the program's '!Less(p, x)'. -/
def leB (d : Nat) (x p : TP) : Bool := !(FloatKind.f64.format.order (p.n d) (x.n d) == some .lt)

/-- A point that can be read. -/
def TP.Ok (w : World) (dims : Nat) (p : TP) : Prop := p.xs.length = dims ∧ Sl w p.A p.xs.length 1 (flts p.xs)

set_option maxHeartbeats 4000000 in
theorem pless_at (w : World) (dims d pb o n c : Nat) (ps : List TP) (i j : Nat) (I J D : Int) (hI : I = i) (hJ : J = j) (hD : D = d) (h : TPs w pb ps) (hi : i < n) (hj : j < n) (hn : o + n ≤ ps.length) (hl : ps.length ≤ 1099511627776) (hc : n ≤ c) (hd : d < dims) (hdm : dims ≤ 1099511627776)
    (p q : TP) (hp : ps[o + i]? = some p) (hq : ps[o + j]? = some q) (ho : p.Ok w dims ∧ q.Ok w dims) :
    Calls Try.prog 155 #[.agg #[.int .i64 D, .slice (some ⟨pb, o, none⟩) n c], .int .i64 I, .int .i64 J] w fun e w' => e = .returned (.bool (!leB d q p)) ∧ Mod (fun _ => False) w w' := by
  subst hI hJ hD
  have c1 : w.cell? ⟨pb, o + i, none⟩ = some p.v := TPs.at h hp
  have c2 : w.cell? ⟨pb, o + j, none⟩ = some q.v := TPs.at h hq
  obtain ⟨l1, s1, z1⟩ := ho.1
  obtain ⟨l2, s2, z2⟩ := ho.2
  rw [l1] at z1
  rw [l2] at z2
  obtain ⟨b1, o1, e1, r1⟩ := z1 (by omega)
  obtain ⟨b2, o2, e2, r2⟩ := z2 (by omega)
  have k1 : w.cell? ⟨b1, o1 + d, none⟩ = some (.float .f64 (p.n d)) := r1 d _ (by
    have hh : d < p.xs.length := by omega
    simp [flts, TP.n, hh])
  have k2 : w.cell? ⟨b2, o2 + d, none⟩ = some (.float .f64 (q.n d)) := r2 d _ (by
    have hh : d < q.xs.length := by omega
    simp [flts, TP.n, hh])
  have i1 : (0 : Int) ≤ i := by omega
  have i2 : (i : Int) < n := by omega
  have j1 : (0 : Int) ≤ j := by omega
  have j2 : (j : Int) < n := by omega
  have d1 : (0 : Int) ≤ d := by omega
  have d2 : (d : Int) < dims := by omega
  have lt := TPs.lt h
  have lt1 := lt_of_cell k1
  have lt2 := lt_of_cell k2
  unfold TP.v at c1 c2
  rw [l1, e1] at c1
  rw [l2, e2] at c2
  have hres : (!leB d q p) = (FloatKind.f64.format.order (p.n d) (q.n d) == some .lt) := by unfold leB; rw [Bool.not_not]
  rw [hres]
  clear h ho hp hq s1 s2 z1 z2 r1 r2 hres e1 e2
  generalize p.n d = x at k1 ⊢
  generalize q.n d = y at k2 ⊢
  go_enter Try.func155, Try.ntmps155
  go_wp2
  go_region
  all_goals (go_wp2; go_ret)
  all_goals exact ⟨rfl, ((Mod.refl _ w).alloc _).drew⟩
end Go.Proofs.Ytmeooadgdagiiaa

namespace Go.Proofs.Ytmeooadgdagiiaa
open Go.RowKit Lox
set_option linter.unusedVariables false

/-- A window of the array, with its plane. -/
abbrev planeV (d : Int) (S : Value) : Value := .agg #[.int .i64 d, S]

theorem pmeth_swap (d : Int) (S : Value) (w : World) : (method 318 209 (planeV d S) "Swap").run Try.prog w = .ok (156, planeV d S) w := by kernel_rfl
theorem pmeth_less (d : Int) (S : Value) (w : World) : (method 318 209 (planeV d S) "Less").run Try.prog w = .ok (155, planeV d S) w := by kernel_rfl
theorem pmeth_len (d : Int) (S : Value) (w : World) : (method 318 209 (planeV d S) "Len").run Try.prog w = .ok (154, planeV d S) w := by kernel_rfl

set_option maxHeartbeats 1000000 in
theorem plen_at (w : World) (d : Int) (A : Option Addr) (n c : Nat) :
    Calls Try.prog 154 #[.agg #[.int .i64 d, .slice A n c]] w fun e w' => e = .returned (.int .i64 n) ∧ Mod (fun _ => False) w w' := by
  go_enter Try.func154, Try.ntmps154
  go_wp2
  go_ret
  exact ⟨rfl, (Mod.refl _ w).alloc _⟩
end Go.Proofs.Ytmeooadgdagiiaa

namespace Go.Proofs.Ytmeooadgdagiiaa
open Go.RowKit Lox
set_option linter.unusedVariables false
attribute [local go_sem] run_store_flt run_store_fn

/-- A point that can be read and does not lie in the array's own block. -/
def TP.Okp (w : World) (dims pb : Nat) (p : TP) : Prop := p.Ok w dims ∧ ∀ b o, p.A = some ⟨b, o, none⟩ → b ≠ pb

theorem TP.Okp.mod {w w' : World} {dims pb : Nat} {S : Nat → Prop} {p : TP} (h : p.Okp w dims pb) (hm : Mod S w w') (hS : ∀ b o, p.A = some ⟨b, o, none⟩ → ¬ S b) : p.Okp w' dims pb := by
  refine ⟨⟨h.1.1, h.1.2.1, fun h0 => ?_⟩, h.2⟩
  obtain ⟨b, o, e, hc⟩ := h.1.2.2 h0
  exact ⟨b, o, e, fun j v hv => (hm.cell (lt_of_cell (hc j v hv)) (hS b o e)).trans (hc j v hv)⟩

theorem pless_g (w : World) (dims d pb o n c : Nat) (ps : List TP) (i j : Nat) (I J D : Int) (g : Bool) (p q : TP) (hg : g = leB d q p) (hI : I = i) (hJ : J = j) (hD : D = d) (h : TPs w pb ps) (hi : i < n) (hj : j < n) (hn : o + n ≤ ps.length) (hl : ps.length ≤ 1099511627776) (hc : n ≤ c) (hd : d < dims) (hdm : dims ≤ 1099511627776)
    (hp : ps[o + i]? = some p) (hq : ps[o + j]? = some q) (ho : p.Ok w dims ∧ q.Ok w dims) :
    Calls Try.prog 155 #[.agg #[.int .i64 D, .slice (some ⟨pb, o, none⟩) n c], .int .i64 I, .int .i64 J] w fun e w' => e = .returned (.bool (!g)) ∧ Mod (fun _ => False) w w' := by
  subst hg
  exact pless_at w dims d pb o n c ps i j I J D hI hJ hD h hi hj hn hl hc hd hdm p q hp hq ho

/-- The loop's state. -/
structure PS (w0 w' : World) (dims d pb n : Nat) (A l1 B : List TP) (i idx : Nat) (l' : List TP) : Prop where
  len : l'.length = n
  ii : idx ≤ i
  perm : l'.Perm l1
  pts : TPs w' pb (A ++ (l' ++ B))
  mod : Mod (fun k => k = pb) w0 w'
  same : KB.partLoop (leB d) (n - 1) (n - 1 - i) l' i idx = KB.partLoop (leB d) (n - 1) (n - 1) l1 0 0

set_option maxRecDepth 100000 in
set_option maxHeartbeats 4000000 in
theorem part_at (w : World) (dims d pb n c k : Nat) (D K : Int) (A l B : List TP) (hD : D = d) (hK : K = k) (h : TPs w pb (A ++ (l ++ B))) (ho : ∀ p ∈ l, p.Okp w dims pb) (hn : l.length = n) (hk : k < n) (hl : (A ++ (l ++ B)).length ≤ 1099511627776) (hc : n ≤ c) (hd : d < dims) (hdm : dims ≤ 1099511627776) :
    Calls Try.prog 128 #[.iface 209 (planeV D (.slice (some ⟨pb, A.length, none⟩) n c)), .int .i64 K] w fun e w' => e = .returned (.int .i64 ((KB.part (leB d) l k).2 : Nat)) ∧ TPs w' pb (A ++ ((KB.part (leB d) l k).1 ++ B)) ∧ Mod (fun k => k = pb) w w' := by
  subst hD hK
  have m1 := pmeth_less
  have m2 := pmeth_swap
  have m3 := pmeth_len
  have hb0 : (0 : Int) < n := by omega
  have hb1 : (n : Int) ≤ 1099511627776 := by have h5 := hl; rw [List.length_append, List.length_append, hn] at h5; omega
  have HK := Lib.hid (And.intro h (And.intro ho (And.intro hn hl)))
  clear h ho hn hl
  go_enter Try.func128, Try.ntmps128
  go_wp2_with (first | (go_at_call 154; refine (plen_at _ d (some ⟨pb, A.length, none⟩) n c).mono ?_; rintro _ w1 ⟨rfl, hm1⟩; have HM1 := Lib.hid hm1; clear hm1) | (go_at_call 156; refine (pswap_at _ d pb A.length n c (A ++ (l ++ B)) k (n - 1) k ((n : Int) - 1) rfl (by omega) (TPs.mod HK.out.1 HM1.out (fun h => h)) hk (by omega) (by have := HK.out.2.2.1; rw [List.length_append, List.length_append]; omega) HK.out.2.2.2 hc).mono ?_; rintro _ w2 ⟨rfl, hk2, hm2⟩; have HK2 := Lib.hid (And.intro hk2 hm2); clear hk2 hm2))
  go_loopw [5, 7] (fun x iv w' => ∃ (i idx : Nat) (l' : List TP), i ≤ n - 1 ∧ x = .int .i64 idx ∧ iv = .int .i64 i ∧ Hid (PS w w' dims d pb n A (KB.swp l k (n - 1)) B i idx l')) (fun _ iv _ => (n - (intOf iv).toNat))
  case atStart => exact ⟨0, 0, KB.swp l k (n - 1), by omega, rfl, rfl, ⟨by rw [KB.swp_len]; exact HK.out.2.2.1, by omega, List.Perm.refl _, by
      have e := KB.swp_mid A l B k (n - 1) (by have := HK.out.2.2.1; omega) (by have := HK.out.2.2.1; omega)
      rw [← e]; exact HK2.out.1, (HM1.out.mono (fun _ _ h => h.elim)).trans HK2.out.2, rfl⟩⟩
  case round =>
    obtain ⟨i, idx, l', hi, rfl, rfl, HR⟩ := hrel
    have HL : ∀ l' : List TP, l'.length = n → (A ++ (l' ++ B)).length ≤ 1099511627776 := by
      intro l' h
      have h5 := HK.out.2.2.2
      have h6 := HK.out.2.2.1
      rw [List.length_append, List.length_append] at h5 ⊢
      omega
    have hii := HR.out.ii
    by_cases hlt : i < n - 1
    · have hlen := HR.out.len
      obtain ⟨x, hx⟩ : ∃ x, l'[i]? = some x := ⟨_, List.getElem?_eq_getElem (by omega)⟩
      obtain ⟨p, hp⟩ : ∃ p, l'[n - 1]? = some p := ⟨_, List.getElem?_eq_getElem (by omega)⟩
      have get : ∀ t, t < n → (A ++ (l' ++ B))[A.length + t]? = l'[t]? := fun t ht => by
        rw [List.getElem?_append_right (by omega), List.getElem?_append_left (by omega)]
        congr 1
        omega
      have HP := Lib.hid (And.intro ((get i (by omega)).trans hx) ((get (n - 1) (by omega)).trans hp))
      obtain ⟨g, hg⟩ : ∃ g, g = leB d x p := ⟨_, rfl⟩
      have hstep : KB.partLoop (leB d) (n - 1) (n - 1 - i) l' i idx = if leB d x p then KB.partLoop (leB d) (n - 1) (n - 1 - (i + 1)) (KB.swp l' idx i) (i + 1) (idx + 1) else KB.partLoop (leB d) (n - 1) (n - 1 - (i + 1)) l' (i + 1) idx := by
        have e : n - 1 - i = n - 1 - (i + 1) + 1 := by omega
        rw [e]
        conv => lhs; unfold KB.partLoop
        rw [hx, hp]
      rw [← hg] at hstep
      have okp : ∀ (y : TP) (t : Nat), l'[t]? = some y → y.Ok wr dims := fun y t hy => by
        have hm := (HR.out.perm.trans (KB.swp_perm l k (n - 1))).mem_iff.1 (List.mem_of_getElem? hy)
        have h5 := HK.out.2.1 y hm
        exact (h5.mod HR.out.mod (fun b o e => h5.2 b o e)).1
      have HO := Lib.hid (And.intro (okp p _ hp) (okp x _ hx))
      clear okp
      have HS := Lib.hid hstep
      have HG := Lib.hid hg
      have h1 : (i : Int) < (n : Int) - 1 := by omega
      have h2 : (idx : Int) ≤ i := by omega
      clear hstep hg hx hp get hlen
      cases g with
      | false =>
        go_wp2_with (go_at_call 155; refine (pless_g _ dims d pb A.length n c (A ++ (l' ++ B)) (n - 1) i ((n : Int) - 1) i d false p x HG.out (by omega) rfl rfl HR.out.pts (by omega) (by omega) (by have := HR.out.len; rw [List.length_append, List.length_append]; omega) (HL l' HR.out.len) hc hd hdm HP.out.2 HP.out.1 HO.out).mono ?_; rintro _ w2 ⟨rfl, hm2⟩; have HL2 := Lib.hid hm2; clear hm2)
        go_roundw
        case rel =>
          refine ⟨i + 1, idx, l', by omega, rfl, by go_num, ⟨HR.out.len, by omega, HR.out.perm, TPs.mod HR.out.pts HL2.out (fun h => h), HR.out.mod.trans (HL2.out.mono (fun _ _ h => h.elim)), ?_⟩⟩
          have h5 := HS.out
          rw [if_neg (by decide)] at h5
          rw [← h5]
          exact HR.out.same
        case measure => simp [intOf]; omega
      | true =>
        go_wp2_with (first | (go_at_call 155; refine (pless_g _ dims d pb A.length n c (A ++ (l' ++ B)) (n - 1) i ((n : Int) - 1) i d true p x HG.out (by omega) rfl rfl HR.out.pts (by omega) (by omega) (by have := HR.out.len; rw [List.length_append, List.length_append]; omega) (HL l' HR.out.len) hc hd hdm HP.out.2 HP.out.1 HO.out).mono ?_; rintro _ w2 ⟨rfl, hm2⟩; have HL2 := Lib.hid hm2; clear hm2) | (go_at_call 156; refine (pswap_at _ d pb A.length n c (A ++ (l' ++ B)) idx i idx i rfl rfl (TPs.mod HR.out.pts HL2.out (fun h => h)) (by omega) (by omega) (by have := HR.out.len; rw [List.length_append, List.length_append]; omega) (HL l' HR.out.len) hc).mono ?_; rintro _ w3 ⟨rfl, hk3, hm3⟩; have HK3 := Lib.hid (And.intro hk3 hm3); clear hk3 hm3))
        go_roundw
        case rel =>
          refine ⟨i + 1, idx + 1, KB.swp l' idx i, by omega, by go_num, by go_num, ⟨by rw [KB.swp_len]; exact HR.out.len, by omega, (KB.swp_perm _ _ _).trans HR.out.perm, ?_, (HR.out.mod.trans (HL2.out.mono (fun _ _ h => h.elim))).trans HK3.out.2, ?_⟩⟩
          · have e := KB.swp_mid A l' B idx i (by have := HR.out.len; omega) (by have := HR.out.len; omega)
            rw [← e]
            exact HK3.out.1
          · have h5 := HS.out
            rw [if_pos trivial] at h5
            rw [← h5]
            exact HR.out.same
        case measure => simp [intOf]; omega
    · obtain rfl : i = n - 1 := by omega
      have hcast : (((n - 1 : Nat) : Nat) : Int) = (n : Int) - 1 := by omega
      rw [hcast]
      go_wp2_with (go_at_call 156; refine (pswap_at _ d pb A.length n c (A ++ (l' ++ B)) (n - 1) idx ((n : Int) - 1) idx (by omega) rfl HR.out.pts (by omega) (by omega) (by have := HR.out.len; rw [List.length_append, List.length_append]; omega) (HL l' HR.out.len) hc).mono ?_; rintro _ w3 ⟨rfl, hk3, hm3⟩; have HK3 := Lib.hid (And.intro hk3 hm3); clear hk3 hm3)
      have hsame := HR.out.same
      rw [Nat.sub_self] at hsame
      have hfin : KB.part (leB d) l k = (KB.swp l' (n - 1) idx, idx) := by
        unfold KB.part
        rw [HK.out.2.2.1, ← hsame]
        rfl
      rw [hfin]
      have e := KB.swp_mid A l' B (n - 1) idx (by have := HR.out.len; omega) (by have := HR.out.len; omega)
      go_ret
      exact ⟨rfl, by rw [← e]; exact HK3.out.1, HR.out.mod.trans HK3.out.2⟩
end Go.Proofs.Ytmeooadgdagiiaa

namespace Go.Proofs.Ytmeooadgdagiiaa
open Go.RowKit Lox
set_option linter.unusedVariables false
attribute [local go_sem] run_store_flt run_store_fn

/-- A list of points with picks. -/
abbrev picksV (S : Value) (lc : Nat) : Value := .agg #[S, .pointer (some ⟨lc, 0, none⟩)]

theorem kmeth_len (S : Value) (lc : Nat) (w : World) : (method 318 71 (picksV S lc) "Len").run Try.prog w = .ok (124, picksV S lc) w := by kernel_rfl
theorem kmeth_index (S : Value) (lc : Nat) (w : World) : (method 318 71 (picksV S lc) "Index").run Try.prog w = .ok (123, picksV S lc) w := by kernel_rfl
theorem kmeth_slice (S : Value) (lc : Nat) (w : World) : (method 318 71 (picksV S lc) "Slice").run Try.prog w = .ok (126, picksV S lc) w := by kernel_rfl
theorem kmeth_pivot (S : Value) (lc : Nat) (w : World) : (method 318 71 (picksV S lc) "Pivot").run Try.prog w = .ok (125, picksV S lc) w := by kernel_rfl
theorem kahead_slice (S : Value) (lc : Nat) (w : World) : (nilAhead 318 71 (picksV S lc) "Slice").run Try.prog w = .ok (some false) w := by kernel_rfl
theorem kahead_compare (A : Option Addr) (n c : Nat) (w : World) : (nilAhead 318 73 (.slice A n c) "Compare").run Try.prog w = .ok (some false) w := by kernel_rfl
theorem kmeth_dims (S : Value) (w : World) : (method 318 73 S "Dims").run Try.prog w = .ok (134, S) w := by kernel_rfl
theorem kmeth_compare (S : Value) (w : World) : (method 318 73 S "Compare").run Try.prog w = .ok (133, S) w := by kernel_rfl

set_option maxHeartbeats 1000000 in
theorem klen_at (w : World) (A : Option Addr) (n c lc : Nat) :
    Calls Try.prog 124 #[picksV (.slice A n c) lc] w fun e w' => e = .returned (.int .i64 n) ∧ Mod (fun _ => False) w w' := by
  go_enter Try.func124, Try.ntmps124
  go_wp2
  go_ret
  exact ⟨rfl, (Mod.refl _ w).alloc _⟩

set_option maxHeartbeats 1000000 in
theorem pdims_at (w : World) (A : Option Addr) (n c : Nat) :
    Calls Try.prog 134 #[.slice A n c] w fun e w' => e = .returned (.int .i64 n) ∧ w = w' := by
  go_enter Try.func134, Try.ntmps134
  go_wp2
  go_ret
  exact ⟨rfl, rfl⟩

set_option maxHeartbeats 1000000 in
theorem kindex_at (w : World) (pb o n c lc i k : Nat) (I : Int) (ps : List TP) (p : TP) (hI : I = i) (hk : p.xs.length = k) (h : TPs w pb ps) (hi : i < n) (hn : n ≤ 1099511627776) (hp : ps[o + i]? = some p) :
    Calls Try.prog 123 #[picksV (.slice (some ⟨pb, o, none⟩) n c) lc, .int .i64 I] w fun e w' => e = .returned (.iface 73 (.slice p.A k p.c)) ∧ Mod (fun _ => False) w w' := by
  subst hI hk
  have c1 : w.cell? ⟨pb, o + i, none⟩ = some p.v := TPs.at h hp
  have lt := TPs.lt h
  unfold TP.v at c1
  have i1 : (0 : Int) ≤ i := by omega
  have i2 : (i : Int) < n := by omega
  clear h hp
  go_enter Try.func123, Try.ntmps123
  go_wp2
  go_ret
  exact ⟨rfl, (Mod.refl _ w).alloc _⟩

set_option maxHeartbeats 1000000 in
theorem kslice_at (w : World) (A : Option Addr) (n c lc i j n' c' : Nat) (I J : Int) (hI : I = i) (hJ : J = j) (hn' : n' = j - i) (hc' : c' = c - i) (hi : i ≤ j) (hj : j ≤ n) (hn : n ≤ c) (hc : c ≤ 9223372036854775807) :
    Calls Try.prog 126 #[picksV (.slice A n c) lc, .int .i64 I, .int .i64 J] w fun e w' => (∃ A', e = .returned (.iface 71 (picksV (.slice A' n' c') lc)) ∧ (i < j → ∀ b o, A = some ⟨b, o, none⟩ → A' = some ⟨b, o + i, none⟩)) ∧ Mod (fun _ => False) w w' := by
  subst hI hJ hn' hc'
  go_enter Try.func126, Try.ntmps126
  go_wp2
  go_quiet (fail)
  go_wp2
  all_goals
    go_ret
    refine ⟨⟨_, rfl, fun hij b o e => ?_⟩, ⟨rfl, rfl, rfl, by simp [World.drewN], fun k hk _ => Below.heap_alloc _ _ _ hk⟩⟩
    subst e
    first | omega | (show some ((⟨b, o, none⟩ : Addr).add i) = _; rw [addr_lit])

/-- The picks' variable: what picks are left. -/
def PK (w : World) (lc pb : Nat) (ks : List Nat) : Prop :=
  ∃ (A : Option Addr) (c : Nat), Blk w lc 23 [.slice A ks.length c] ∧ Sl w A ks.length 1 (ints (ks.map Int.ofNat)) ∧ ks.length ≤ c ∧ c ≤ 9223372036854775807 ∧ (∀ k ∈ ks, k ≤ 9223372036854775807) ∧
    (0 < ks.length → ∀ b o, A = some ⟨b, o, none⟩ → b ≠ pb ∧ b ≠ lc)

theorem PK.mod {w w' : World} {lc pb : Nat} {ks : List Nat} {S : Nat → Prop} (h : PK w lc pb ks) (hm : Mod S w w') (hS : ∀ k, S k → k = pb) (hne : lc ≠ pb) : PK w' lc pb ks := by
  obtain ⟨A, c, hb, hs, h1, h2, h3, h4⟩ := h
  refine ⟨A, c, hb.mod hm (fun h => hne (hS _ h)), ⟨hs.1, fun h0 => ?_⟩, h1, h2, h3, h4⟩
  obtain ⟨b, o, e, hc⟩ := hs.2 h0
  exact ⟨b, o, e, fun j v hv => (hm.cell (lt_of_cell (hc j v hv)) (fun h => (h4 h0 b o e).1 (hS _ h))).trans (hc j v hv)⟩

theorem pick_mod (x n : Nat) (h0 : 0 < n) (hn : n ≤ 1099511627776) : (wrap64 ((x : Int) % (n : Int) + (n : Int))).tmod (n : Int) = ((x % n : Nat) : Int) := by
  have h1 : x % n < n := Nat.mod_lt _ h0
  have e1 : (x : Int) % (n : Int) = ((x % n : Nat) : Int) := by simp
  rw [e1]
  have e2 : wrap64 (((x % n : Nat) : Int) + (n : Int)) = ((x % n + n : Nat) : Int) := by unfold wrap64; omega
  rw [e2, ← Int.ofNat_tmod]
  simp

theorem pk_next {w w' : World} {lc pb x b o pc : Nat} {ks : List Nat} {A' : Option Addr} (hs : Sl w (some ⟨b, o, none⟩) (x :: ks).length 1 (ints ((x :: ks).map Int.ofNat))) (hW : Blk w' lc 23 [.slice A' ks.length (pc - 1)])
    (hm : Mod (fun k => k = pb ∨ k = lc) w w') (hA : 0 < ks.length → A' = some ⟨b, o + 1, none⟩) (h1 : ks.length + 1 ≤ pc) (h2 : pc ≤ 9223372036854775807) (h3 : ∀ k ∈ x :: ks, k ≤ 9223372036854775807)
    (h4 : ∀ b' o', some (⟨b, o, none⟩ : Addr) = some ⟨b', o', none⟩ → b' ≠ pb ∧ b' ≠ lc) : PK w' lc pb ks := by
  refine ⟨A', pc - 1, hW, ⟨by simp [ints], fun h0 => ?_⟩, by omega, by omega, fun k hk => h3 k (by simp [hk]), fun h0 b' o' e => ?_⟩
  · obtain ⟨b1, o1, e, hc⟩ := hs.2 (by simp)
    cases e
    obtain ⟨g1, g2⟩ := h4 b o rfl
    refine ⟨b, o + 1, hA h0, fun j v hv => ?_⟩
    have := hc (j + 1) v (by simpa [ints] using hv)
    rw [show o + 1 + j = o + (j + 1) by omega]
    exact (hm.cell (lt_of_cell this) (by rintro (h | h); exact g1 h; exact g2 h)).trans this
  · rw [hA h0] at e
    cases e
    exact h4 b o rfl

set_option maxRecDepth 100000 in
set_option maxHeartbeats 4000000 in
theorem kpivot_at (w : World) (dims d pb n c lc : Nat) (D : Int) (A l B : List TP) (ks : List Nat) (hD : D = d) (h : TPs w pb (A ++ (l ++ B))) (ho : ∀ p ∈ l, p.Okp w dims pb) (hk : PK w lc pb ks) (hne : lc ≠ pb) (hn : l.length = n) (hn0 : 0 < n) (hl : (A ++ (l ++ B)).length ≤ 1099511627776) (hc : n ≤ c) (hd : d < dims) (hdm : dims ≤ 1099511627776) (hf : ∀ p ∈ l, ∀ b o, p.A = some ⟨b, o, none⟩ → b ≠ lc) :
    Calls Try.prog 125 #[picksV (.slice (some ⟨pb, A.length, none⟩) n c) lc, .int .i64 D] w fun e w' => e = .returned (.int .i64 ((KB.part (leB d) l (KB.pick n ks).1).2 : Nat)) ∧ TPs w' pb (A ++ ((KB.part (leB d) l (KB.pick n ks).1).1 ++ B)) ∧ PK w' lc pb (KB.pick n ks).2 ∧ Mod (fun k => k = pb ∨ k = lc) w w' := by
  subst hD
  have hb0 : (0 : Int) < n := by omega
  have hb1 : (n : Int) ≤ 1099511627776 := by have h5 := hl; rw [List.length_append, List.length_append, hn] at h5; omega
  have HK := Lib.hid (And.intro h (And.intro ho (And.intro hn (And.intro hl hf))))
  clear h ho hn hl hf
  obtain ⟨PA, pc, hb, hs, h1, h2, h3, h4⟩ := hk
  have clc := hb.at (i := 0) rfl
  have flc := hb.frozen 0
  have llc := hb.lt
  have HP := Lib.hid (And.intro hb (And.intro hs h4))
  clear hb hs h4
  have PART : ∀ (w1 : World) (k : Nat) (K : Int), K = k → k < n → Mod (fun k => k = lc) w w1 →
      Calls Try.prog 128 #[.iface 209 (planeV d (.slice (some ⟨pb, A.length, none⟩) n c)), .int .i64 K] w1 fun e w' => e = .returned (.int .i64 ((KB.part (leB d) l k).2 : Nat)) ∧ TPs w' pb (A ++ ((KB.part (leB d) l k).1 ++ B)) ∧ Mod (fun k => k = pb) w1 w' := by
    intro w1 k K hK hk hm
    obtain ⟨q1, q2, q3, q4, q5⟩ := HK.out
    exact part_at w1 dims d pb n c k d K A l B rfl hK (TPs.mod q1 hm (fun h => hne h.symm)) (fun p hp => (q2 p hp).mod hm (q5 p hp)) q3 hk q4 hc hd hdm
  have HPART := Lib.hid PART
  clear PART
  cases ks with
  | nil =>
    have h1' := h1
    have h2' := h2
    clear h3 h1 h2
    have e0 : ([] : List Nat).length = 0 := rfl
    rw [e0] at clc
    go_enter Try.func125, Try.ntmps125
    go_wp2_with (go_at_call 128; refine (HPART.out _ (n / 2) _ (by omega) (by omega) ((Mod.refl _ _).alloc _)).mono ?_; rintro _ w1 ⟨rfl, ht, hm⟩; have HT := Lib.hid (And.intro ht hm); clear ht hm)
    go_ret
    have e1 : KB.pick n [] = (n / 2, []) := rfl
    rw [e1]
    have hm1 : Mod (fun k => k = pb) w w1 := (((Mod.refl _ _).alloc _).trans HT.out.2)
    exact ⟨rfl, HT.out.1, PK.mod ⟨PA, pc, HP.out.1, HP.out.2.1, h1', h2', (fun k hk => by cases hk), HP.out.2.2⟩ hm1 (fun _ h => h) hne, hm1.mono (fun _ _ h => .inl h)⟩
  | cons x ks =>
    obtain ⟨m, hm⟩ : ∃ m, m = ks.length := ⟨_, rfl⟩
    rw [List.length_cons, ← hm] at clc h1
    obtain ⟨b, o, e, hcell⟩ := HP.out.2.1.2 (by simp)
    have cx := hcell 0 (.int .i64 x) rfl
    rw [Nat.add_zero] at cx
    have hx := h3 x (by simp)
    have lcx := lt_of_cell cx
    have hmo : 0 < m + 1 := by omega
    subst e
    have HM := Lib.hid (And.intro hm h3)
    clear hm h3 hcell
    by_cases hpc : pc = 1
    · subst hpc
      go_enter Try.func125, Try.ntmps125
      go_wp2_with fail
      go_region
      rw [pick_mod x n (by omega) (by omega)]
      obtain rfl : m = 0 := by omega
      have hW := ((HP.out.1.set 0 (Value.slice (some { block := b, off := o }) 0 0)).alloc (Obj.cells #[Value.slice (some { block := pb, off := A.length }) n c, Value.pointer (some { block := lc, off := 0 })] 71)).drew
      have hM := (((Mod.refl (fun k => k = lc) w).set (p := ⟨lc, 0, none⟩) (Or.inl rfl) (Value.slice (some { block := b, off := o }) 0 0)).alloc (Obj.cells #[Value.slice (some { block := pb, off := A.length }) n c, Value.pointer (some { block := lc, off := 0 })] 71)).drew
      have HW := Lib.hid (And.intro hW hM)
      clear hW hM
      go_wp2_with (go_at_call 128; refine (HPART.out _ (x % n) _ rfl (Nat.mod_lt _ (by omega)) HW.out.2).mono ?_; rintro _ w1 ⟨rfl, ht, hm⟩; have HT := Lib.hid (And.intro ht hm); clear ht hm)
      go_ret
      have e1 : KB.pick n (x :: ks) = (x % n, ks) := rfl
      rw [e1]
      have hm1 : Mod (fun k => k = pb ∨ k = lc) w w1 := (HW.out.2.mono (fun _ _ h => .inr h)).trans (HT.out.2.mono (fun _ _ h => .inl h))
      have hk0 := HM.out.1
      refine ⟨rfl, HT.out.1, ?_, hm1⟩
      show PK w1 lc pb ks
      refine pk_next (pc := 1) (A' := some ⟨b, o, none⟩) HP.out.2.1 ?_ hm1 (fun h => by omega) (by omega) (by omega) HM.out.2 (fun b' o' e => HP.out.2.2 (by simp) b' o' e)
      rw [← hk0]
      exact HW.out.1.mod HT.out.2 hne
    · have p1 : (1 : Int) ≤ pc := by omega
      have p2 : (pc : Int) ≠ 1 := by omega
      go_enter Try.func125, Try.ntmps125
      go_wp2_with fail
      go_region
      rw [pick_mod x n (by omega) (by omega)]
      have hW := ((HP.out.1.set 0 (Value.slice (some { block := b, off := o + 1 }) m (pc - 1))).alloc (Obj.cells #[Value.slice (some { block := pb, off := A.length }) n c, Value.pointer (some { block := lc, off := 0 })] 71)).drew
      have hM := (((Mod.refl (fun k => k = lc) w).set (p := ⟨lc, 0, none⟩) (Or.inl rfl) (Value.slice (some { block := b, off := o + 1 }) m (pc - 1))).alloc (Obj.cells #[Value.slice (some { block := pb, off := A.length }) n c, Value.pointer (some { block := lc, off := 0 })] 71)).drew
      have HW := Lib.hid (And.intro hW hM)
      clear hW hM
      go_wp2_with (go_at_call 128; refine (HPART.out _ (x % n) _ rfl (Nat.mod_lt _ (by omega)) HW.out.2).mono ?_; rintro _ w1 ⟨rfl, ht, hm⟩; have HT := Lib.hid (And.intro ht hm); clear ht hm)
      go_ret
      have e1 : KB.pick n (x :: ks) = (x % n, ks) := rfl
      rw [e1]
      have hm1 : Mod (fun k => k = pb ∨ k = lc) w w1 := (HW.out.2.mono (fun _ _ h => .inr h)).trans (HT.out.2.mono (fun _ _ h => .inl h))
      have hk0 := HM.out.1
      refine ⟨rfl, HT.out.1, ?_, hm1⟩
      show PK w1 lc pb ks
      refine pk_next (pc := pc) (A' := some ⟨b, o + 1, none⟩) HP.out.2.1 ?_ hm1 (fun h => rfl) (by omega) (by omega) HM.out.2 (fun b' o' e => HP.out.2.2 (by simp) b' o' e)
      rw [← hk0]
      exact HW.out.1.mod HT.out.2 hne
end Go.Proofs.Ytmeooadgdagiiaa

namespace Go.Proofs.Ytmeooadgdagiiaa
open Go.RowKit Lox
set_option linter.unusedVariables false

/-- A box of a node: its block, its least and its greatest point. -/
structure BX where
  g : Nat
  mn : TP
  mx : TP

/-- A tree as it lies in memory: of each node its block, its point, its plane, its box. -/
inductive MT where
  | nil
  | node (g : Nat) (p : TP) (d : Nat) (bx : Option BX) (l r : MT)

def MT.T : MT → KB.T TP
  | .nil => .nil
  | .node _ p d _ l r => .node p d l.T r.T

/-- The nodes' blocks. -/
def MT.gs : MT → List Nat
  | .nil => []
  | .node g _ _ _ l r => g :: (l.gs ++ r.gs)

/-- No node has a box. -/
def MT.bare : MT → Prop
  | .nil => True
  | .node _ _ _ bx l r => bx = none ∧ l.bare ∧ r.bare

def boxV : Option BX → Value
  | none => .pointer none
  | some x => .pointer (some ⟨x.g, 0, none⟩)

/-- What stands in a node's block. -/
def nodeCells (p : TP) (d : Nat) (lv rv : Value) (bx : Option BX) : List Value := [.iface 73 p.v, .int .i64 d, lv, rv, boxV bx]

/-- In world w, at v, such a tree stands. -/
def MT.In (w : World) : MT → Value → Prop
  | .nil, v => v = .pointer none
  | .node g p d bx l r, v => v = .pointer (some ⟨g, 0, none⟩) ∧ ∃ lv rv, Blk w g 122 (nodeCells p d lv rv bx) ∧ l.In w lv ∧ r.In w rv

theorem MT.In.ptr {w : World} {t : MT} {v : Value} (h : t.In w v) : ∃ q, v = .pointer q := by
  cases t with
  | nil => exact ⟨_, h⟩
  | node g p d bx l r => exact ⟨_, h.1⟩

theorem MT.In.keep {w w' : World} : ∀ {t : MT} {v : Value}, t.In w v → (∀ k ∈ t.gs, k < w.heap.size → w'.heap[k]? = w.heap[k]?) → t.In w' v := by
  intro t
  induction t with
  | nil => intro v h _; exact h
  | node g p d bx l r ihl ihr =>
    intro v h hk
    obtain ⟨e, lv, rv, hb, hl, hr⟩ := h
    refine ⟨e, lv, rv, ?_, ihl hl fun k hm => hk k (by simp [MT.gs, hm]), ihr hr fun k hm => hk k (by simp [MT.gs, hm])⟩
    have := hk g (by simp [MT.gs]) hb.lt
    unfold Blk at *
    rw [this, hb]

theorem MT.In.lt {w : World} : ∀ {t : MT} {v : Value}, t.In w v → ∀ k ∈ t.gs, k < w.heap.size := by
  intro t
  induction t with
  | nil => intro v h k hk; cases hk
  | node g p d bx l r ihl ihr =>
    intro v h k hk
    obtain ⟨e, lv, rv, hb, hl, hr⟩ := h
    rcases List.mem_cons.1 hk with rfl | hk
    · exact hb.lt
    · rcases List.mem_append.1 hk with hk | hk
      · exact ihl hl k hk
      · exact ihr hr k hk

theorem MT.In.mod {w w' : World} {t : MT} {v : Value} {S : Nat → Prop} (h : t.In w v) (hm : Mod S w w') (hS : ∀ k ∈ t.gs, ¬ S k) : t.In w' v :=
  h.keep fun k hk hl => hm.block k hl (hS k hk)

/-- A block in which no float number stands. -/
def NoFlt (w : World) (k : Nat) : Prop := ∀ o x, w.cell? ⟨k, o, none⟩ ≠ some (.float .f64 x)

theorem MT.In.noFlt {w : World} : ∀ {t : MT} {v : Value}, t.In w v → ∀ k ∈ t.gs, NoFlt w k := by
  intro t
  induction t with
  | nil => intro v h k hk; cases hk
  | node g p d bx l r ihl ihr =>
    intro v h k hk
    obtain ⟨e, lv, rv, hb, hl, hr⟩ := h
    rcases List.mem_cons.1 hk with rfl | hk
    · intro o x hc
      rw [hb.cell] at hc
      obtain ⟨q1, rfl⟩ := hl.ptr
      obtain ⟨q2, rfl⟩ := hr.ptr
      have hm := List.mem_of_getElem? hc
      unfold nodeCells boxV at hm
      cases bx <;> simp at hm
    · rcases List.mem_append.1 hk with hk | hk
      · exact ihl hl k hk
      · exact ihr hr k hk

/-- A point of a coordinate at least is as it was where only blocks without numbers have turned. -/
theorem TP.Ok.noFlt {w w' : World} {dims : Nat} {S : Nat → Prop} {p : TP} (h : p.Ok w dims) (hm : Mod S w w') (hS : ∀ k, k < w.heap.size → S k → NoFlt w k) : p.Ok w' dims := by
  refine ⟨h.1, h.2.1, fun h0 => ?_⟩
  obtain ⟨b, o, e, hc⟩ := h.2.2 h0
  refine ⟨b, o, e, fun j v hv => ?_⟩
  have hcj := hc j v hv
  refine (hm.cell (lt_of_cell hcj) (fun hs => ?_)).trans hcj
  have hv' : ∃ x, v = .float .f64 x := by
    have hm' := List.mem_of_getElem? hv
    obtain ⟨x, _, rfl⟩ := List.mem_map.1 hm'
    exact ⟨x, rfl⟩
  obtain ⟨x, rfl⟩ := hv'
  exact hS b (lt_of_cell hcj) hs (o + j) x hcj

/-- The points of a tree. -/
def MT.pts : MT → List TP
  | .nil => []
  | .node _ p _ _ l r => l.pts ++ p :: r.pts

theorem MT.pts_all : ∀ t : MT, t.pts = t.T.all := by
  intro t
  induction t with
  | nil => rfl
  | node g p d bx l r ihl ihr => simp only [MT.pts, MT.T, KB.T.all, ihl, ihr]
end Go.Proofs.Ytmeooadgdagiiaa
