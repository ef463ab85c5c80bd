/- Steps of a proof, one behind another: The walk of the reference's function that goes on from a node. Conditions: as each theorem says. -/
import Derived.Test.YtmeooadgdagiiaaMr1
import Derived.Deep.AppendLies
import Derived.Deep.RegionLaw
import Derived.Deep.DrawnRows
import Derived.Deep.DeepCutAuto

namespace Go.Proofs.Ytmeooadgdagiiaa.W
open Go.RowKit Lox
set_option linter.unusedVariables false
attribute [local go_sem] run_store_flt run_store_fn
attribute [local go_sem ↓] Go.wp_at_zero Go.wp_at_succ

theorem info_int : (Try.prog.info? 3).map (fun i => (i.zero, i.size, i.bytes)) = some (some (.int .i64 0), 1, 8) := by kernel_rfl

def sdV (pt : Nat) : Value := .func (Fn.func 39) #[] #[.pointer (some ⟨pt, 0, none⟩)]

def FromTold (H n : Nat) (C F : Nat → Int) (sd : Value) (w0 : World) (i above : Int) (dep : Nat) (ok : Bool) (os ds : List Int) (bs : List Bool) (e : Ending) (w' : World) : Prop :=
  e = .returned (.tuple #[]) ∧ ∃ ok' os' ds' bs', WS H n sd w0 w' ok' os' ds' bs' ∧ os'.length + cnt bs ≤ cnt bs' + os.length ∧ ds'.length = os'.length ∧
    (ok' = true → ok = true ∧ (i = -1 ∨ (above < i ∧ i < n)) ∧ os' = os ++ (chl C F n i above dep).map (·.1) ∧ ds' = ds ++ (chl C F n i above dep).map (·.2)) ∧ Yes C F n i above ok ok' bs bs'

set_option maxHeartbeats 4000000 in
theorem from_at (T : Option Addr) (c : Nat) (xs : List KN) (pt H n : Nat) (w0 : World) (hH : w0.heap.size = H) (hn : n = xs.length) (hn2 : n ≤ 2147483647) (hb0 : Blk w0 pt 28 [.slice T xs.length c]) (h0 : KNodes w0 T xs) (fuel : Nat) :
    ∀ (i above : Int) (dep : Nat) (w : World) (ok : Bool) (os ds : List Int) (bs : List Bool) (D : Int), WS H n (sdV pt) w0 w ok os ds bs → -1 ≤ above → above < n → (n : Int) - above ≤ fuel → (dep : Int) ≤ above + 1 → D = dep → os.length ≤ cnt bs → ds.length = os.length →
      Calls Try.prog 65 #[.int .i64 i, .int .i64 above, .int .i64 D, .pointer (some ⟨H + 4, 0, none⟩), .pointer (some ⟨H, 0, none⟩), .pointer (some ⟨H + 6, 0, none⟩), .pointer (some ⟨H + 1, 0, none⟩), .pointer (some ⟨H + 7, 0, none⟩), .pointer (some ⟨H + 2, 0, none⟩), .pointer (some ⟨H + 3, 0, none⟩)] w
        (FromTold H n (KC xs) (KF xs) (sdV pt) w0 i above dep ok os ds bs) := by
  induction fuel with
  | zero => intro i above dep w ok os ds bs D hW h1 h2 h3; omega
  | succ fuel ih =>
    intro i above dep w ok os ds bs D hW ha1 ha2 hf hd hD hc hl
    subst hD
    obtain ⟨i0, hi0, hz0, hz1, hz2⟩ := info_parts info_int
    have HI := Lib.hid (And.intro hi0 (And.intro hz0 (And.intro hz1 hz2)))
    clear hi0 hz0 hz1 hz2
    have IH := Lib.hid ih
    clear ih
    have HW := Lib.hid hW
    have cok := hW.bok.at (i := 0) rfl
    have fok := hW.bok.frozen 0
    have cn := hW.bn.at (i := 0) rfl
    have cse := hW.bse.at (i := 0) rfl
    have csd : w.cell? ⟨H + 1, 0, none⟩ = some (.func (Fn.func 39) #[] #[.pointer (some ⟨pt, 0, none⟩)]) := hW.bsd.at (i := 0) rfl
    have cfr : w.cell? ⟨H + 7, 0, none⟩ = some (.func (Fn.func 65) #[] #[.pointer (some ⟨H + 4, 0, none⟩), .pointer (some ⟨H, 0, none⟩), .pointer (some ⟨H + 6, 0, none⟩), .pointer (some ⟨H + 1, 0, none⟩), .pointer (some ⟨H + 7, 0, none⟩), .pointer (some ⟨H + 2, 0, none⟩), .pointer (some ⟨H + 3, 0, none⟩)]) := hW.bfr.at (i := 0) rfl
    have hlen := hW.len
    have hS := hW.bS
    have hcnt := cnt_le bs
    clear hW
    have HC : Hid (Blk w0 pt 28 [.slice T xs.length c] ∧ KNodes w0 T xs ∧ w0.heap.size = H ∧ n = xs.length) := ⟨hb0, h0, hH, hn⟩
    clear hb0 h0 hH hn
    go_enter Try.func65, Try.ntmps65
    by_cases hi : i = -1
    · subst hi
      go_wp2
      exact bodyPost_ret (v := .tuple #[]) (by simp [results, Try.results65, go_sem]) rfl ⟨rfl, ok, os, ds, bs, HW.out, Nat.le_of_eq (Nat.add_comm _ _), hl, fun h => ⟨h, .inl rfl, by rw [chl_none (by omega)]; simp, by rw [chl_none (by omega)]; simp⟩, yes_none⟩
    · have hib : (i == -1) = false := by simp [hi]
      cases ok with
      | false =>
        go_wp2
        exact bodyPost_ret (v := .tuple #[]) (by simp [results, Try.results65, go_sem]) rfl ⟨rfl, false, os, ds, bs, HW.out, Nat.le_of_eq (Nat.add_comm _ _), hl, (fun h => by cases h), yes_false⟩
      | true =>
        by_cases h1 : above < i
        · by_cases h2 : i < n
          · obtain ⟨k, rfl⟩ : ∃ k : Nat, i = k := ⟨i.toNat, by omega⟩
            have hk : k < bs.length := by omega
            have hkn : k < n := by omega
            obtain ⟨b, eb⟩ : ∃ b, bs[k]? = some b := ⟨_, List.getElem?_eq_getElem hk⟩
            have cS := hS.at (i := k) (v := .bool b) (by simp [eb])
            have fS := hS.frozen k
            cases b with
            | true =>
              go_wp2
              exact bodyPost_ret (v := .tuple #[]) (by simp [results, Try.results65, go_sem]) rfl ⟨rfl, false, os, ds, bs, HW.out.no, Nat.le_of_eq (Nat.add_comm _ _), hl, (fun h => by cases h), yes_seen eb⟩
            | false =>
              have hW1 := HW.out.see k
              have HW1 := Lib.hid hW1
              have hcs := cnt_set eb
              have hxk : xs[k]? = some (xs[k]'(by rw [← HC.out.2.2.2]; exact hkn)) := List.getElem?_eq_getElem _
              obtain ⟨x, ex⟩ : ∃ x, xs[k]? = some x := ⟨_, hxk⟩
              have hVC : KC xs k = x.c := by simp [KC, ex]
              have hVF : KF xs k = x.f := by simp [KF, ex]
              have cnt1 := cnt_le (bs.set k true)
              rw [List.length_set] at cnt1
              go_wp2_with (first | (go_at_call 39; refine (sides_at T c xs pt k x _ ((HC.out.1.below HW1.out.bel (by have := HC.out.1.lt; have := HC.out.2.2.1; omega))) (HC.out.2.1.mod (Mod.ofBelow (by rw [HC.out.2.2.1]; exact HW1.out.bel))) ex).mono ?_; rintro _ w1 ⟨rfl, hm1⟩; have hW2 := HW1.out.mod hm1; have cfr1 : w1.cell? ⟨H + 7, 0, none⟩ = some (.func (Fn.func 65) #[] #[.pointer (some ⟨H + 4, 0, none⟩), .pointer (some ⟨H, 0, none⟩), .pointer (some ⟨H + 6, 0, none⟩), .pointer (some ⟨H + 1, 0, none⟩), .pointer (some ⟨H + 7, 0, none⟩), .pointer (some ⟨H + 2, 0, none⟩), .pointer (some ⟨H + 3, 0, none⟩)]) := (hW2.bfr.at (i := 0) rfl)) | (go_at_call 65; refine (IH.out x.c k (dep + 1) w1 true os ds _ _ hW2 (by omega) (by omega) (by omega) (by omega) (by omega) (by omega) hl).mono ?_; rintro _ w2 ⟨rfl, ok2, os2, ds2, bs2, hW3, hc2, hl2, hr2, hy2⟩; have HY2 := Lib.hid hy2; clear hy2))
              obtain ⟨v1, v2, b1, b2, h2r⟩ := hW3.rows
              have hv1 : Hid True ∧ w2.cell? ⟨H + 2, 0, none⟩ = some v1 ∧ w2.frozen? ⟨H + 2, 0, none⟩ = false := ⟨trivial, b1.at (i := 0) rfl, b1.frozen 0⟩
              have hv2 : Hid True ∧ w2.cell? ⟨H + 3, 0, none⟩ = some v2 ∧ w2.frozen? ⟨H + 3, 0, none⟩ = false := ⟨trivial, b2.at (i := 0) rfl, b2.frozen 0⟩
              have cO := hv1.2.1
              have cD := hv2.2.1
              have hM0 := h2r.mid hW3.size
              have sz := hW3.size
              have sO : H + 2 < w2.heap.size := by omega
              have sD : H + 3 < w2.heap.size := by omega
              have hcb := cnt_le bs2
              rw [hW3.len] at hcb
              have HL2 := Lib.hid hl2
              have hos : os2.length + 1 ≤ n := by omega
              have hds : ds2.length + 1 ≤ n := by omega
              clear hl2
              go_cut [] from 50 to 57 (fun wx => WS H n (sdV pt) w0 wx ok2 (os2 ++ [(k : Int)]) (ds2 ++ [(dep : Int)]) bs2)
              case first =>
                clear cok fok cn cse csd cfr cS fS cfr1 hS
                go_region_law
                  (first
                    | ((refine step_append_lies _ (by rfl) _ _ _ (by rfl) (H + 8) 3 i0 (.int .i64 0) 1 8 Try.underlying23 HI.out.1 HI.out.2.1 HI.out.2.2.1 HI.out.2.2.2 rfl (by omega) v1 os2.length (ints os2) (by rfl) (by first | exact (hM0.build _).two.o1 | exact ((hM0.build _).build _).two.o1 | exact hMB.two.o1 | exact (hMB.build _).two.o1) _ 1 1 [.int .i64 (k : Nat)] (by rfl) (by rfl) (by first | exact (hM0.build _).news (by simp) | exact ((hM0.build _).build _).news (by simp) | exact hMB.news (by simp) | exact (hMB.build _).news (by simp)) (by simp [Value.oneCell']) (by omega) (by unfold maxLen; omega) (by omega) (by first | exact (hM0.build _).size | exact ((hM0.build _).build _).size | exact hMB.size | exact (hMB.build _).size) _ rfl ?_; intro gg capg wg hownG hgrowG hatG hltG; first | (have hMA := (hM0.build _).app1 hownG hgrowG hatG; have cO := hMA.cell (by omega) hv1.2.1; have cD := hMA.cell (by omega) hv2.2.1; have fO := hMA.frozen (by omega) hv1.2.2; have fD := hMA.frozen (by omega) hv2.2.2; have sz := hMA.size; have sO : H + 2 < wg.heap.size := (by omega); have sD : H + 3 < wg.heap.size := (by omega)) | (have hMA := ((hM0.build _).build _).app1 hownG hgrowG hatG; have cO := hMA.cell (by omega) hv1.2.1; have cD := hMA.cell (by omega) hv2.2.1; have fO := hMA.frozen (by omega) hv1.2.2; have fD := hMA.frozen (by omega) hv2.2.2; have sz := hMA.size; have sO : H + 2 < wg.heap.size := (by omega); have sD : H + 3 < wg.heap.size := (by omega)) | (have hMZ := hMB.app1 hownG hgrowG hatG; have cO := hMZ.cell (by omega) hv1.2.1; have cD := hMZ.cell (by omega) hv2.2.1; have fO := hMZ.frozen (by omega) hv1.2.2; have fD := hMZ.frozen (by omega) hv2.2.2; have sz := hMZ.size; have sO : H + 2 < wg.heap.size := (by omega); have sD : H + 3 < wg.heap.size := (by omega)) | (have hMZ := (hMB.build _).app1 hownG hgrowG hatG; have cO := hMZ.cell (by omega) hv1.2.1; have cD := hMZ.cell (by omega) hv2.2.1; have fO := hMZ.frozen (by omega) hv1.2.2; have fD := hMZ.frozen (by omega) hv2.2.2; have sz := hMZ.size; have sO : H + 2 < wg.heap.size := (by omega); have sD : H + 3 < wg.heap.size := (by omega))))
                    | ((refine step_append_lies _ (by rfl) _ _ _ (by rfl) (H + 8) 3 i0 (.int .i64 0) 1 8 Try.underlying23 HI.out.1 HI.out.2.1 HI.out.2.2.1 HI.out.2.2.2 rfl (by omega) v2 ds2.length (ints ds2) (by rfl) (by first | exact (hM0.build _).two.o2 | exact ((hM0.build _).build _).two.o2 | exact hMA.two.o2 | exact (hMA.build _).two.o2) _ 1 1 [.int .i64 (dep : Nat)] (by rfl) (by rfl) (by first | exact (hM0.build _).news (by simp) | exact ((hM0.build _).build _).news (by simp) | exact hMA.news (by simp) | exact (hMA.build _).news (by simp)) (by simp [Value.oneCell']) (by omega) (by unfold maxLen; omega) (by omega) (by first | exact (hM0.build _).size | exact ((hM0.build _).build _).size | exact hMA.size | exact (hMA.build _).size) _ rfl ?_; intro gg capg wg hownG hgrowG hatG hltG; first | (have hMB := (hM0.build _).app2 hownG hgrowG hatG; have cO := hMB.cell (by omega) hv1.2.1; have cD := hMB.cell (by omega) hv2.2.1; have fO := hMB.frozen (by omega) hv1.2.2; have fD := hMB.frozen (by omega) hv2.2.2; have sz := hMB.size; have sO : H + 2 < wg.heap.size := (by omega); have sD : H + 3 < wg.heap.size := (by omega)) | (have hMB := ((hM0.build _).build _).app2 hownG hgrowG hatG; have cO := hMB.cell (by omega) hv1.2.1; have cD := hMB.cell (by omega) hv2.2.1; have fO := hMB.frozen (by omega) hv1.2.2; have fD := hMB.frozen (by omega) hv2.2.2; have sz := hMB.size; have sO : H + 2 < wg.heap.size := (by omega); have sD : H + 3 < wg.heap.size := (by omega)) | (have hMZ := hMA.app2 hownG hgrowG hatG; have cO := hMZ.cell (by omega) hv1.2.1; have cD := hMZ.cell (by omega) hv2.2.1; have fO := hMZ.frozen (by omega) hv1.2.2; have fD := hMZ.frozen (by omega) hv2.2.2; have sz := hMZ.size; have sO : H + 2 < wg.heap.size := (by omega); have sD : H + 3 < wg.heap.size := (by omega)) | (have hMZ := (hMA.build _).app2 hownG hgrowG hatG; have cO := hMZ.cell (by omega) hv1.2.1; have cD := hMZ.cell (by omega) hv2.2.1; have fO := hMZ.frozen (by omega) hv1.2.2; have fD := hMZ.frozen (by omega) hv2.2.2; have sz := hMZ.size; have sO : H + 2 < wg.heap.size := (by omega); have sD : H + 3 < wg.heap.size := (by omega)))))
                all_goals
                  go_wp2_with fail
                  go_meet
                  first
                    | exact hMZ.fin hW3
                    | exact hMZ.fin' hW3
              case rest =>
                have hW5 := hcut
                have cfr5 : wc.cell? ⟨H + 7, 0, none⟩ = some (.func (Fn.func 65) #[] #[.pointer (some ⟨H + 4, 0, none⟩), .pointer (some ⟨H, 0, none⟩), .pointer (some ⟨H + 6, 0, none⟩), .pointer (some ⟨H + 1, 0, none⟩), .pointer (some ⟨H + 7, 0, none⟩), .pointer (some ⟨H + 2, 0, none⟩), .pointer (some ⟨H + 3, 0, none⟩)]) := hW5.bfr.at (i := 0) rfl
                go_wp2_with (go_at_call 65; refine (IH.out x.f k (dep + 1) wc ok2 _ _ bs2 _ hW5 (by omega) (by omega) (by omega) (by omega) (by omega) (by simp; omega) (by simp [HL2.out])).mono ?_; rintro _ w6 ⟨rfl, ok3, os3, ds3, bs3, hW6, hc6, hl6, hr6, hy6⟩; have HY6 := Lib.hid hy6; clear hy6)
                refine bodyPost_ret (v := .tuple #[]) (by simp [results, Try.results65, go_sem]) rfl ⟨rfl, ok3, os3, ds3, bs3, hW6, ?_, hl6, fun h3 => ?_, by rw [← hVC] at HY2; rw [← hVF] at HY6; exact yes_node eb HY2.out HY6.out⟩
                · simp only [List.length_append, List.length_singleton] at hc6
                  omega
                · obtain ⟨h2', _, e1, e2⟩ := hr6 h3
                  obtain ⟨_, _, e3, e4⟩ := hr2 h2'
                  refine ⟨rfl, .inr ⟨h1, h2⟩, ?_, ?_⟩
                  · rw [e1, e3, chl_node h1 hkn, hVC, hVF]; simp
                  · rw [e2, e4, chl_node h1 hkn, hVC, hVF]; simp
          · go_wp2
            exact bodyPost_ret (v := .tuple #[]) (by simp [results, Try.results65, go_sem]) rfl ⟨rfl, false, os, ds, bs, HW.out.no, Nat.le_of_eq (Nat.add_comm _ _), hl, (fun h => by cases h), yes_out (.inr (Int.not_lt.2 h2)) hi⟩
        · go_wp2
          exact bodyPost_ret (v := .tuple #[]) (by simp [results, Try.results65, go_sem]) rfl ⟨rfl, false, os, ds, bs, HW.out.no, Nat.le_of_eq (Nat.add_comm _ _), hl, (fun h => by cases h), yes_out (.inl (Int.not_lt.2 h1)) hi⟩
end Go.Proofs.Ytmeooadgdagiiaa.W
