/- The walk of Partition over a window of the array of points. Conditions: as it says. -/
import Derived.Test.YtmeooadgdagiiaaTbMeth
namespace Go.Proofs.Ytmeooadgdagiiaa
open Go.RowKit Lox
set_option linter.unusedVariables false
attribute [local go_sem] run_store_flt run_store_fn

/-- A point that can be read and does not lie in the array's own block. -/
def TP.Okp (w : World) (dims pb : Nat) (p : TP) : Prop := p.Ok w dims ∧ ∀ b o, p.A = some ⟨b, o, none⟩ → b ≠ pb

theorem TP.Okp.mod {w w' : World} {dims pb : Nat} {S : Nat → Prop} {p : TP} (h : p.Okp w dims pb) (hm : Mod S w w') (hS : ∀ b o, p.A = some ⟨b, o, none⟩ → ¬ S b) : p.Okp w' dims pb := by
  refine ⟨⟨h.1.1, h.1.2.1, fun h0 => ?_⟩, h.2⟩
  obtain ⟨b, o, e, hc⟩ := h.1.2.2 h0
  exact ⟨b, o, e, fun j v hv => (hm.cell (lt_of_cell (hc j v hv)) (hS b o e)).trans (hc j v hv)⟩

theorem pless_g (w : World) (dims d pb o n c : Nat) (ps : List TP) (i j : Nat) (I J D : Int) (g : Bool) (p q : TP) (hg : g = leB d q p) (hI : I = i) (hJ : J = j) (hD : D = d) (h : TPs w pb ps) (hi : i < n) (hj : j < n) (hn : o + n ≤ ps.length) (hl : ps.length ≤ 1099511627776) (hc : n ≤ c) (hd : d < dims) (hdm : dims ≤ 1099511627776)
    (hp : ps[o + i]? = some p) (hq : ps[o + j]? = some q) (ho : p.Ok w dims ∧ q.Ok w dims) :
    Calls Try.prog 155 #[.agg #[.int .i64 D, .slice (some ⟨pb, o, none⟩) n c], .int .i64 I, .int .i64 J] w fun e w' => e = .returned (.bool (!g)) ∧ Mod (fun _ => False) w w' := by
  subst hg
  exact pless_at w dims d pb o n c ps i j I J D hI hJ hD h hi hj hn hl hc hd hdm p q hp hq ho

/-- The loop's state. -/
structure PS (w0 w' : World) (dims d pb n : Nat) (A l1 B : List TP) (i idx : Nat) (l' : List TP) : Prop where
  len : l'.length = n
  ii : idx ≤ i
  perm : l'.Perm l1
  pts : TPs w' pb (A ++ (l' ++ B))
  mod : Mod (fun k => k = pb) w0 w'
  same : KB.partLoop (leB d) (n - 1) (n - 1 - i) l' i idx = KB.partLoop (leB d) (n - 1) (n - 1) l1 0 0

set_option maxRecDepth 100000 in
set_option maxHeartbeats 4000000 in
theorem part_at (w : World) (dims d pb n c k : Nat) (D K : Int) (A l B : List TP) (hD : D = d) (hK : K = k) (h : TPs w pb (A ++ (l ++ B))) (ho : ∀ p ∈ l, p.Okp w dims pb) (hn : l.length = n) (hk : k < n) (hl : (A ++ (l ++ B)).length ≤ 1099511627776) (hc : n ≤ c) (hd : d < dims) (hdm : dims ≤ 1099511627776) :
    Calls Try.prog 128 #[.iface 209 (planeV D (.slice (some ⟨pb, A.length, none⟩) n c)), .int .i64 K] w fun e w' => e = .returned (.int .i64 ((KB.part (leB d) l k).2 : Nat)) ∧ TPs w' pb (A ++ ((KB.part (leB d) l k).1 ++ B)) ∧ Mod (fun k => k = pb) w w' := by
  subst hD hK
  have m1 := pmeth_less
  have m2 := pmeth_swap
  have m3 := pmeth_len
  have hb0 : (0 : Int) < n := by omega
  have hb1 : (n : Int) ≤ 1099511627776 := by have h5 := hl; rw [List.length_append, List.length_append, hn] at h5; omega
  have HK := Lib.hid (And.intro h (And.intro ho (And.intro hn hl)))
  clear h ho hn hl
  go_enter Try.func128, Try.ntmps128
  go_wp2_with (first | (go_at_call 154; refine (plen_at _ d (some ⟨pb, A.length, none⟩) n c).mono ?_; rintro _ w1 ⟨rfl, hm1⟩; have HM1 := Lib.hid hm1; clear hm1) | (go_at_call 156; refine (pswap_at _ d pb A.length n c (A ++ (l ++ B)) k (n - 1) k ((n : Int) - 1) rfl (by omega) (TPs.mod HK.out.1 HM1.out (fun h => h)) hk (by omega) (by have := HK.out.2.2.1; rw [List.length_append, List.length_append]; omega) HK.out.2.2.2 hc).mono ?_; rintro _ w2 ⟨rfl, hk2, hm2⟩; have HK2 := Lib.hid (And.intro hk2 hm2); clear hk2 hm2))
  go_loopw [5, 7] (fun x iv w' => ∃ (i idx : Nat) (l' : List TP), i ≤ n - 1 ∧ x = .int .i64 idx ∧ iv = .int .i64 i ∧ Hid (PS w w' dims d pb n A (KB.swp l k (n - 1)) B i idx l')) (fun _ iv _ => (n - (intOf iv).toNat))
  case atStart => exact ⟨0, 0, KB.swp l k (n - 1), by omega, rfl, rfl, ⟨by rw [KB.swp_len]; exact HK.out.2.2.1, by omega, List.Perm.refl _, by
      have e := KB.swp_mid A l B k (n - 1) (by have := HK.out.2.2.1; omega) (by have := HK.out.2.2.1; omega)
      rw [← e]; exact HK2.out.1, (HM1.out.mono (fun _ _ h => h.elim)).trans HK2.out.2, rfl⟩⟩
  case round =>
    obtain ⟨i, idx, l', hi, rfl, rfl, HR⟩ := hrel
    have HL : ∀ l' : List TP, l'.length = n → (A ++ (l' ++ B)).length ≤ 1099511627776 := by
      intro l' h
      have h5 := HK.out.2.2.2
      have h6 := HK.out.2.2.1
      rw [List.length_append, List.length_append] at h5 ⊢
      omega
    have hii := HR.out.ii
    by_cases hlt : i < n - 1
    · have hlen := HR.out.len
      obtain ⟨x, hx⟩ : ∃ x, l'[i]? = some x := ⟨_, List.getElem?_eq_getElem (by omega)⟩
      obtain ⟨p, hp⟩ : ∃ p, l'[n - 1]? = some p := ⟨_, List.getElem?_eq_getElem (by omega)⟩
      have get : ∀ t, t < n → (A ++ (l' ++ B))[A.length + t]? = l'[t]? := fun t ht => by
        rw [List.getElem?_append_right (by omega), List.getElem?_append_left (by omega)]
        congr 1
        omega
      have HP := Lib.hid (And.intro ((get i (by omega)).trans hx) ((get (n - 1) (by omega)).trans hp))
      obtain ⟨g, hg⟩ : ∃ g, g = leB d x p := ⟨_, rfl⟩
      have hstep : KB.partLoop (leB d) (n - 1) (n - 1 - i) l' i idx = if leB d x p then KB.partLoop (leB d) (n - 1) (n - 1 - (i + 1)) (KB.swp l' idx i) (i + 1) (idx + 1) else KB.partLoop (leB d) (n - 1) (n - 1 - (i + 1)) l' (i + 1) idx := by
        have e : n - 1 - i = n - 1 - (i + 1) + 1 := by omega
        rw [e]
        conv => lhs; unfold KB.partLoop
        rw [hx, hp]
      rw [← hg] at hstep
      have okp : ∀ (y : TP) (t : Nat), l'[t]? = some y → y.Ok wr dims := fun y t hy => by
        have hm := (HR.out.perm.trans (KB.swp_perm l k (n - 1))).mem_iff.1 (List.mem_of_getElem? hy)
        have h5 := HK.out.2.1 y hm
        exact (h5.mod HR.out.mod (fun b o e => h5.2 b o e)).1
      have HO := Lib.hid (And.intro (okp p _ hp) (okp x _ hx))
      clear okp
      have HS := Lib.hid hstep
      have HG := Lib.hid hg
      have h1 : (i : Int) < (n : Int) - 1 := by omega
      have h2 : (idx : Int) ≤ i := by omega
      clear hstep hg hx hp get hlen
      cases g with
      | false =>
        go_wp2_with (go_at_call 155; refine (pless_g _ dims d pb A.length n c (A ++ (l' ++ B)) (n - 1) i ((n : Int) - 1) i d false p x HG.out (by omega) rfl rfl HR.out.pts (by omega) (by omega) (by have := HR.out.len; rw [List.length_append, List.length_append]; omega) (HL l' HR.out.len) hc hd hdm HP.out.2 HP.out.1 HO.out).mono ?_; rintro _ w2 ⟨rfl, hm2⟩; have HL2 := Lib.hid hm2; clear hm2)
        go_roundw
        case rel =>
          refine ⟨i + 1, idx, l', by omega, rfl, by go_num, ⟨HR.out.len, by omega, HR.out.perm, TPs.mod HR.out.pts HL2.out (fun h => h), HR.out.mod.trans (HL2.out.mono (fun _ _ h => h.elim)), ?_⟩⟩
          have h5 := HS.out
          rw [if_neg (by decide)] at h5
          rw [← h5]
          exact HR.out.same
        case measure => simp [intOf]; omega
      | true =>
        go_wp2_with (first | (go_at_call 155; refine (pless_g _ dims d pb A.length n c (A ++ (l' ++ B)) (n - 1) i ((n : Int) - 1) i d true p x HG.out (by omega) rfl rfl HR.out.pts (by omega) (by omega) (by have := HR.out.len; rw [List.length_append, List.length_append]; omega) (HL l' HR.out.len) hc hd hdm HP.out.2 HP.out.1 HO.out).mono ?_; rintro _ w2 ⟨rfl, hm2⟩; have HL2 := Lib.hid hm2; clear hm2) | (go_at_call 156; refine (pswap_at _ d pb A.length n c (A ++ (l' ++ B)) idx i idx i rfl rfl (TPs.mod HR.out.pts HL2.out (fun h => h)) (by omega) (by omega) (by have := HR.out.len; rw [List.length_append, List.length_append]; omega) (HL l' HR.out.len) hc).mono ?_; rintro _ w3 ⟨rfl, hk3, hm3⟩; have HK3 := Lib.hid (And.intro hk3 hm3); clear hk3 hm3))
        go_roundw
        case rel =>
          refine ⟨i + 1, idx + 1, KB.swp l' idx i, by omega, by go_num, by go_num, ⟨by rw [KB.swp_len]; exact HR.out.len, by omega, (KB.swp_perm _ _ _).trans HR.out.perm, ?_, (HR.out.mod.trans (HL2.out.mono (fun _ _ h => h.elim))).trans HK3.out.2, ?_⟩⟩
          · have e := KB.swp_mid A l' B idx i (by have := HR.out.len; omega) (by have := HR.out.len; omega)
            rw [← e]
            exact HK3.out.1
          · have h5 := HS.out
            rw [if_pos trivial] at h5
            rw [← h5]
            exact HR.out.same
        case measure => simp [intOf]; omega
    · obtain rfl : i = n - 1 := by omega
      have hcast : (((n - 1 : Nat) : Nat) : Int) = (n : Int) - 1 := by omega
      rw [hcast]
      go_wp2_with (go_at_call 156; refine (pswap_at _ d pb A.length n c (A ++ (l' ++ B)) (n - 1) idx ((n : Int) - 1) idx (by omega) rfl HR.out.pts (by omega) (by omega) (by have := HR.out.len; rw [List.length_append, List.length_append]; omega) (HL l' HR.out.len) hc).mono ?_; rintro _ w3 ⟨rfl, hk3, hm3⟩; have HK3 := Lib.hid (And.intro hk3 hm3); clear hk3 hm3)
      have hsame := HR.out.same
      rw [Nat.sub_self] at hsame
      have hfin : KB.part (leB d) l k = (KB.swp l' (n - 1) idx, idx) := by
        unfold KB.part
        rw [HK.out.2.2.1, ← hsame]
        rfl
      rw [hfin]
      have e := KB.swp_mid A l' B (n - 1) idx (by have := HR.out.len; omega) (by have := HR.out.len; omega)
      go_ret
      exact ⟨rfl, by rw [← e]; exact HK3.out.1, HR.out.mod.trans HK3.out.2⟩
end Go.Proofs.Ytmeooadgdagiiaa
