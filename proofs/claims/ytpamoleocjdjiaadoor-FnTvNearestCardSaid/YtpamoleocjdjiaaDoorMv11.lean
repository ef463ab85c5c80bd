/- Steps of a proof, one behind another: The walk of the reference's function that goes on from a node. The walks of the reference's Walk and VWalk. The rows that VBuild writes are a vantage-point tree, as the reference looks at them. The walks of SamePoint and Among over points of whole numbers. The walk of SamePoints, and the float comparisons of FnTvBuilt. Conditions: as each theorem says. -/
import Derived.Test.YtpamoleocjdjiaaDoorMv10
import Derived.Deep.AppendLies
import Derived.Deep.RegionLaw
import Derived.Deep.DrawnRows
import Derived.Deep.DeepCutAuto
import Derived.Deep.OwnRows

namespace Go.Proofs.YtpamoleocjdjiaaDoor.W
open Go.RowKit Lox
set_option linter.unusedVariables false
attribute [local go_sem] run_store_flt run_store_fn
attribute [local go_sem ↓] Go.wp_at_zero Go.wp_at_succ

theorem info_int : (Tryd.prog.info? 3).map (fun i => (i.zero, i.size, i.bytes)) = some (some (.int .i64 0), 1, 8) := by kernel_rfl

def sdV (pt : Nat) : Value := .func (Fn.func 28) #[] #[.pointer (some ⟨pt, 0, none⟩)]

def FromTold (H n : Nat) (C F : Nat → Int) (sd : Value) (w0 : World) (i above : Int) (dep : Nat) (ok : Bool) (os ds : List Int) (bs : List Bool) (e : Ending) (w' : World) : Prop :=
  e = .returned (.tuple #[]) ∧ ∃ ok' os' ds' bs', WS H n sd w0 w' ok' os' ds' bs' ∧ os'.length + cnt bs ≤ cnt bs' + os.length ∧ ds'.length = os'.length ∧
    (ok' = true → ok = true ∧ (i = -1 ∨ (above < i ∧ i < n)) ∧ os' = os ++ (chl C F n i above dep).map (·.1) ∧ ds' = ds ++ (chl C F n i above dep).map (·.2)) ∧ Yes C F n i above ok ok' bs bs'

set_option maxHeartbeats 4000000 in
theorem from_at (T : Option Addr) (c : Nat) (xs : List VN) (pt H n : Nat) (w0 : World) (hH : w0.heap.size = H) (hn : n = xs.length) (hn2 : n ≤ 2147483647) (hb0 : Blk w0 pt 28 [.slice T xs.length c]) (h0 : Nodes w0 T xs) (fuel : Nat) :
    ∀ (i above : Int) (dep : Nat) (w : World) (ok : Bool) (os ds : List Int) (bs : List Bool) (D : Int), WS H n (sdV pt) w0 w ok os ds bs → -1 ≤ above → above < n → (n : Int) - above ≤ fuel → (dep : Int) ≤ above + 1 → D = dep → os.length ≤ cnt bs → ds.length = os.length →
      Calls Tryd.prog 45 #[.int .i64 i, .int .i64 above, .int .i64 D, .pointer (some ⟨H + 4, 0, none⟩), .pointer (some ⟨H, 0, none⟩), .pointer (some ⟨H + 6, 0, none⟩), .pointer (some ⟨H + 1, 0, none⟩), .pointer (some ⟨H + 7, 0, none⟩), .pointer (some ⟨H + 2, 0, none⟩), .pointer (some ⟨H + 3, 0, none⟩)] w
        (FromTold H n (VC xs) (VF xs) (sdV pt) w0 i above dep ok os ds bs) := by
  induction fuel with
  | zero => intro i above dep w ok os ds bs D hW h1 h2 h3; omega
  | succ fuel ih =>
    intro i above dep w ok os ds bs D hW ha1 ha2 hf hd hD hc hl
    subst hD
    obtain ⟨i0, hi0, hz0, hz1, hz2⟩ := info_parts info_int
    have HI := Lib.hid (And.intro hi0 (And.intro hz0 (And.intro hz1 hz2)))
    clear hi0 hz0 hz1 hz2
    have IH := Lib.hid ih
    clear ih
    have HW := Lib.hid hW
    have cok := hW.bok.at (i := 0) rfl
    have fok := hW.bok.frozen 0
    have cn := hW.bn.at (i := 0) rfl
    have cse := hW.bse.at (i := 0) rfl
    have csd : w.cell? ⟨H + 1, 0, none⟩ = some (.func (Fn.func 28) #[] #[.pointer (some ⟨pt, 0, none⟩)]) := hW.bsd.at (i := 0) rfl
    have cfr : w.cell? ⟨H + 7, 0, none⟩ = some (.func (Fn.func 45) #[] #[.pointer (some ⟨H + 4, 0, none⟩), .pointer (some ⟨H, 0, none⟩), .pointer (some ⟨H + 6, 0, none⟩), .pointer (some ⟨H + 1, 0, none⟩), .pointer (some ⟨H + 7, 0, none⟩), .pointer (some ⟨H + 2, 0, none⟩), .pointer (some ⟨H + 3, 0, none⟩)]) := hW.bfr.at (i := 0) rfl
    have hlen := hW.len
    have hS := hW.bS
    have hcnt := cnt_le bs
    clear hW
    have HC : Hid (Blk w0 pt 28 [.slice T xs.length c] ∧ Nodes w0 T xs ∧ w0.heap.size = H ∧ n = xs.length) := ⟨hb0, h0, hH, hn⟩
    clear hb0 h0 hH hn
    go_enter Tryd.func45, Tryd.ntmps45
    by_cases hi : i = -1
    · subst hi
      go_wp2
      exact bodyPost_ret (v := .tuple #[]) (by simp [results, Tryd.results45, go_sem]) rfl ⟨rfl, ok, os, ds, bs, HW.out, Nat.le_of_eq (Nat.add_comm _ _), hl, fun h => ⟨h, .inl rfl, by rw [chl_none (by omega)]; simp, by rw [chl_none (by omega)]; simp⟩, yes_none⟩
    · have hib : (i == -1) = false := by simp [hi]
      cases ok with
      | false =>
        go_wp2
        exact bodyPost_ret (v := .tuple #[]) (by simp [results, Tryd.results45, go_sem]) rfl ⟨rfl, false, os, ds, bs, HW.out, Nat.le_of_eq (Nat.add_comm _ _), hl, (fun h => by cases h), yes_false⟩
      | true =>
        by_cases h1 : above < i
        · by_cases h2 : i < n
          · obtain ⟨k, rfl⟩ : ∃ k : Nat, i = k := ⟨i.toNat, by omega⟩
            have hk : k < bs.length := by omega
            have hkn : k < n := by omega
            obtain ⟨b, eb⟩ : ∃ b, bs[k]? = some b := ⟨_, List.getElem?_eq_getElem hk⟩
            have cS := hS.at (i := k) (v := .bool b) (by simp [eb])
            have fS := hS.frozen k
            cases b with
            | true =>
              go_wp2
              exact bodyPost_ret (v := .tuple #[]) (by simp [results, Tryd.results45, go_sem]) rfl ⟨rfl, false, os, ds, bs, HW.out.no, Nat.le_of_eq (Nat.add_comm _ _), hl, (fun h => by cases h), yes_seen eb⟩
            | false =>
              have hW1 := HW.out.see k
              have HW1 := Lib.hid hW1
              have hcs := cnt_set eb
              have hxk : xs[k]? = some (xs[k]'(by rw [← HC.out.2.2.2]; exact hkn)) := List.getElem?_eq_getElem _
              obtain ⟨x, ex⟩ : ∃ x, xs[k]? = some x := ⟨_, hxk⟩
              have hVC : VC xs k = x.c := by simp [VC, ex]
              have hVF : VF xs k = x.f := by simp [VF, ex]
              have cnt1 := cnt_le (bs.set k true)
              rw [List.length_set] at cnt1
              go_wp2_with (first | (go_at_call 28; refine (sides_at T c xs pt k x _ ((HC.out.1.below HW1.out.bel (by have := HC.out.1.lt; have := HC.out.2.2.1; omega))) (HC.out.2.1.mod (Mod.ofBelow (by rw [HC.out.2.2.1]; exact HW1.out.bel))) ex).mono ?_; rintro _ w1 ⟨rfl, hm1⟩; have hW2 := HW1.out.mod hm1; have cfr1 : w1.cell? ⟨H + 7, 0, none⟩ = some (.func (Fn.func 45) #[] #[.pointer (some ⟨H + 4, 0, none⟩), .pointer (some ⟨H, 0, none⟩), .pointer (some ⟨H + 6, 0, none⟩), .pointer (some ⟨H + 1, 0, none⟩), .pointer (some ⟨H + 7, 0, none⟩), .pointer (some ⟨H + 2, 0, none⟩), .pointer (some ⟨H + 3, 0, none⟩)]) := (hW2.bfr.at (i := 0) rfl)) | (go_at_call 45; refine (IH.out x.c k (dep + 1) w1 true os ds _ _ hW2 (by omega) (by omega) (by omega) (by omega) (by omega) (by omega) hl).mono ?_; rintro _ w2 ⟨rfl, ok2, os2, ds2, bs2, hW3, hc2, hl2, hr2, hy2⟩; have HY2 := Lib.hid hy2; clear hy2))
              obtain ⟨v1, v2, b1, b2, h2r⟩ := hW3.rows
              have hv1 : Hid True ∧ w2.cell? ⟨H + 2, 0, none⟩ = some v1 ∧ w2.frozen? ⟨H + 2, 0, none⟩ = false := ⟨trivial, b1.at (i := 0) rfl, b1.frozen 0⟩
              have hv2 : Hid True ∧ w2.cell? ⟨H + 3, 0, none⟩ = some v2 ∧ w2.frozen? ⟨H + 3, 0, none⟩ = false := ⟨trivial, b2.at (i := 0) rfl, b2.frozen 0⟩
              have cO := hv1.2.1
              have cD := hv2.2.1
              have hM0 := h2r.mid hW3.size
              have sz := hW3.size
              have sO : H + 2 < w2.heap.size := by omega
              have sD : H + 3 < w2.heap.size := by omega
              have hcb := cnt_le bs2
              rw [hW3.len] at hcb
              have HL2 := Lib.hid hl2
              have hos : os2.length + 1 ≤ n := by omega
              have hds : ds2.length + 1 ≤ n := by omega
              clear hl2
              go_cut [] from 50 to 57 (fun wx => WS H n (sdV pt) w0 wx ok2 (os2 ++ [(k : Int)]) (ds2 ++ [(dep : Int)]) bs2)
              case first =>
                clear cok fok cn cse csd cfr cS fS cfr1 hS
                go_region_law
                  (first
                    | ((refine step_append_lies _ (by rfl) _ _ _ (by rfl) (H + 8) 3 i0 (.int .i64 0) 1 8 Tryd.underlying31 HI.out.1 HI.out.2.1 HI.out.2.2.1 HI.out.2.2.2 rfl (by omega) v1 os2.length (ints os2) (by rfl) (by first | exact (hM0.build _).two.o1 | exact ((hM0.build _).build _).two.o1 | exact hMB.two.o1 | exact (hMB.build _).two.o1) _ 1 1 [.int .i64 (k : Nat)] (by rfl) (by rfl) (by first | exact (hM0.build _).news (by simp) | exact ((hM0.build _).build _).news (by simp) | exact hMB.news (by simp) | exact (hMB.build _).news (by simp)) (by simp [Value.oneCell']) (by omega) (by unfold maxLen; omega) (by omega) (by first | exact (hM0.build _).size | exact ((hM0.build _).build _).size | exact hMB.size | exact (hMB.build _).size) _ rfl ?_; intro gg capg wg hownG hgrowG hatG hltG; first | (have hMA := (hM0.build _).app1 hownG hgrowG hatG; have cO := hMA.cell (by omega) hv1.2.1; have cD := hMA.cell (by omega) hv2.2.1; have fO := hMA.frozen (by omega) hv1.2.2; have fD := hMA.frozen (by omega) hv2.2.2; have sz := hMA.size; have sO : H + 2 < wg.heap.size := (by omega); have sD : H + 3 < wg.heap.size := (by omega)) | (have hMA := ((hM0.build _).build _).app1 hownG hgrowG hatG; have cO := hMA.cell (by omega) hv1.2.1; have cD := hMA.cell (by omega) hv2.2.1; have fO := hMA.frozen (by omega) hv1.2.2; have fD := hMA.frozen (by omega) hv2.2.2; have sz := hMA.size; have sO : H + 2 < wg.heap.size := (by omega); have sD : H + 3 < wg.heap.size := (by omega)) | (have hMZ := hMB.app1 hownG hgrowG hatG; have cO := hMZ.cell (by omega) hv1.2.1; have cD := hMZ.cell (by omega) hv2.2.1; have fO := hMZ.frozen (by omega) hv1.2.2; have fD := hMZ.frozen (by omega) hv2.2.2; have sz := hMZ.size; have sO : H + 2 < wg.heap.size := (by omega); have sD : H + 3 < wg.heap.size := (by omega)) | (have hMZ := (hMB.build _).app1 hownG hgrowG hatG; have cO := hMZ.cell (by omega) hv1.2.1; have cD := hMZ.cell (by omega) hv2.2.1; have fO := hMZ.frozen (by omega) hv1.2.2; have fD := hMZ.frozen (by omega) hv2.2.2; have sz := hMZ.size; have sO : H + 2 < wg.heap.size := (by omega); have sD : H + 3 < wg.heap.size := (by omega))))
                    | ((refine step_append_lies _ (by rfl) _ _ _ (by rfl) (H + 8) 3 i0 (.int .i64 0) 1 8 Tryd.underlying31 HI.out.1 HI.out.2.1 HI.out.2.2.1 HI.out.2.2.2 rfl (by omega) v2 ds2.length (ints ds2) (by rfl) (by first | exact (hM0.build _).two.o2 | exact ((hM0.build _).build _).two.o2 | exact hMA.two.o2 | exact (hMA.build _).two.o2) _ 1 1 [.int .i64 (dep : Nat)] (by rfl) (by rfl) (by first | exact (hM0.build _).news (by simp) | exact ((hM0.build _).build _).news (by simp) | exact hMA.news (by simp) | exact (hMA.build _).news (by simp)) (by simp [Value.oneCell']) (by omega) (by unfold maxLen; omega) (by omega) (by first | exact (hM0.build _).size | exact ((hM0.build _).build _).size | exact hMA.size | exact (hMA.build _).size) _ rfl ?_; intro gg capg wg hownG hgrowG hatG hltG; first | (have hMB := (hM0.build _).app2 hownG hgrowG hatG; have cO := hMB.cell (by omega) hv1.2.1; have cD := hMB.cell (by omega) hv2.2.1; have fO := hMB.frozen (by omega) hv1.2.2; have fD := hMB.frozen (by omega) hv2.2.2; have sz := hMB.size; have sO : H + 2 < wg.heap.size := (by omega); have sD : H + 3 < wg.heap.size := (by omega)) | (have hMB := ((hM0.build _).build _).app2 hownG hgrowG hatG; have cO := hMB.cell (by omega) hv1.2.1; have cD := hMB.cell (by omega) hv2.2.1; have fO := hMB.frozen (by omega) hv1.2.2; have fD := hMB.frozen (by omega) hv2.2.2; have sz := hMB.size; have sO : H + 2 < wg.heap.size := (by omega); have sD : H + 3 < wg.heap.size := (by omega)) | (have hMZ := hMA.app2 hownG hgrowG hatG; have cO := hMZ.cell (by omega) hv1.2.1; have cD := hMZ.cell (by omega) hv2.2.1; have fO := hMZ.frozen (by omega) hv1.2.2; have fD := hMZ.frozen (by omega) hv2.2.2; have sz := hMZ.size; have sO : H + 2 < wg.heap.size := (by omega); have sD : H + 3 < wg.heap.size := (by omega)) | (have hMZ := (hMA.build _).app2 hownG hgrowG hatG; have cO := hMZ.cell (by omega) hv1.2.1; have cD := hMZ.cell (by omega) hv2.2.1; have fO := hMZ.frozen (by omega) hv1.2.2; have fD := hMZ.frozen (by omega) hv2.2.2; have sz := hMZ.size; have sO : H + 2 < wg.heap.size := (by omega); have sD : H + 3 < wg.heap.size := (by omega)))))
                all_goals
                  go_wp2_with fail
                  go_meet
                  first
                    | exact hMZ.fin hW3
                    | exact hMZ.fin' hW3
              case rest =>
                have hW5 := hcut
                have cfr5 : wc.cell? ⟨H + 7, 0, none⟩ = some (.func (Fn.func 45) #[] #[.pointer (some ⟨H + 4, 0, none⟩), .pointer (some ⟨H, 0, none⟩), .pointer (some ⟨H + 6, 0, none⟩), .pointer (some ⟨H + 1, 0, none⟩), .pointer (some ⟨H + 7, 0, none⟩), .pointer (some ⟨H + 2, 0, none⟩), .pointer (some ⟨H + 3, 0, none⟩)]) := hW5.bfr.at (i := 0) rfl
                go_wp2_with (go_at_call 45; refine (IH.out x.f k (dep + 1) wc ok2 _ _ bs2 _ hW5 (by omega) (by omega) (by omega) (by omega) (by omega) (by simp; omega) (by simp [HL2.out])).mono ?_; rintro _ w6 ⟨rfl, ok3, os3, ds3, bs3, hW6, hc6, hl6, hr6, hy6⟩; have HY6 := Lib.hid hy6; clear hy6)
                refine bodyPost_ret (v := .tuple #[]) (by simp [results, Tryd.results45, go_sem]) rfl ⟨rfl, ok3, os3, ds3, bs3, hW6, ?_, hl6, fun h3 => ?_, by rw [← hVC] at HY2; rw [← hVF] at HY6; exact yes_node eb HY2.out HY6.out⟩
                · simp only [List.length_append, List.length_singleton] at hc6
                  omega
                · obtain ⟨h2', _, e1, e2⟩ := hr6 h3
                  obtain ⟨_, _, e3, e4⟩ := hr2 h2'
                  refine ⟨rfl, .inr ⟨h1, h2⟩, ?_, ?_⟩
                  · rw [e1, e3, chl_node h1 hkn, hVC, hVF]; simp
                  · rw [e2, e4, chl_node h1 hkn, hVC, hVF]; simp
          · go_wp2
            exact bodyPost_ret (v := .tuple #[]) (by simp [results, Tryd.results45, go_sem]) rfl ⟨rfl, false, os, ds, bs, HW.out.no, Nat.le_of_eq (Nat.add_comm _ _), hl, (fun h => by cases h), yes_out (.inr (Int.not_lt.2 h2)) hi⟩
        · go_wp2
          exact bodyPost_ret (v := .tuple #[]) (by simp [results, Tryd.results45, go_sem]) rfl ⟨rfl, false, os, ds, bs, HW.out.no, Nat.le_of_eq (Nat.add_comm _ _), hl, (fun h => by cases h), yes_out (.inl (Int.not_lt.2 h1)) hi⟩
end Go.Proofs.YtpamoleocjdjiaaDoor.W

namespace Go.Proofs.YtpamoleocjdjiaaDoor.W
open Go.RowKit Lox
set_option linter.unusedVariables false
attribute [local go_sem] run_store_flt run_store_fn

theorem info_bool : (Tryd.prog.info? 4).map (fun i => (i.zero, i.size, i.bytes)) = some (some (.bool false), 1, 1) := by kernel_rfl

theorem made_bools (n : Nat) : (madeCells #[.bool false] n).toList = (List.replicate n false).map Value.bool := by
  have : madeCells #[.bool false] n = (List.replicate n (Value.bool false)).toArray := by
    apply Array.ext
    · simp [madeCells]
    · intro i h1 h2
      simp [madeCells, Nat.mod_one]
  rw [this]
  simp

theorem blk_new_at {w : World} {b : Nat} (h : w.heap.size = b) (c : Array Value) (T : TypeId) {xs : List Value} (hx : c.toList = xs) : Blk (w.alloc (.cells c T)) b T xs := by
  subst h hx
  exact Blk.new' w c T

theorem own_sl {w : World} {B : Nat} {e : TypeId} {v : Value} {n : Nat} {xs : List Value} (h : w.ownsRow B e 1 v n xs) : ∃ A cap, v = .slice A n cap ∧ Sl w A n 1 xs := by
  rcases h.2 with ⟨rfl, h0⟩ | ⟨g, cap, cur, e1, hb, hg, hc⟩
  · subst h0
    exact ⟨none, 0, rfl, by have := h.1; simpa using this, fun h => by omega⟩
  · refine ⟨some ⟨g, 0, none⟩, cap, e1, h.1, fun _ => ⟨g, 0, rfl, fun j u hu => ?_⟩⟩
    have := h.cells (g := g) (by rw [e1]; rfl) j u hu
    rw [addr_lit] at this
    exact this

theorem ws_init (w : World) (H n : Nat) (sd : Value) (hH : w.heap.size = H) : WS H n sd w ((((((((w.alloc (.cells #[.int .i64 n] 3)).alloc (.cells #[sd] 70)).alloc (.cells #[.slice none 0 0] 31)).alloc (.cells #[.slice none 0 0] 31)).alloc (.cells #[.bool true] 4)).alloc (.cells (madeCells #[.bool false] n) 4)).alloc (.cells #[.slice (some ⟨H + 5, 0, none⟩) n n] 93)).alloc (.cells #[fromV H] 94)) true [] [] (List.replicate n false) := by
  have hs : ∀ (w : World) (o : Obj) (k : Nat), w.heap.size = k → (w.alloc o).heap.size = k + 1 := fun w o k h => by rw [World.size_alloc, h]
  have s1 := hs w (.cells #[.int .i64 n] 3) H hH
  have s2 := hs _ (.cells #[sd] 70) _ s1
  have s3 := hs _ (.cells #[.slice none 0 0] 31) _ s2
  have s4 := hs _ (.cells #[.slice none 0 0] 31) _ s3
  have s5 := hs _ (.cells #[.bool true] 4) _ s4
  have s6 := hs _ (.cells (madeCells #[.bool false] n) 4) _ s5
  have s7 := hs _ (.cells #[.slice (some ⟨H + 5, 0, none⟩) n n] 93) _ s6
  have s8 := hs _ (.cells #[fromV H] 94) _ s7
  refine ⟨((((((((Below.refl _ _).alloc (by omega) _).alloc (by omega) _).alloc (by omega) _).alloc (by omega) _).alloc (by omega) _).alloc (by omega) _).alloc (by omega) _).alloc (by omega) _, by omega, ?_, ?_, ?_, ?_, ?_, ?_, by simp, .slice none 0 0, .slice none 0 0, ?_, ?_, ⟨World.ownsRow_nil _ _ _ _, World.ownsRow_nil _ _ _ _, fun k h => by cases h⟩⟩
  · exact (((((((blk_new_at hH _ _ rfl).alloc _).alloc _).alloc _).alloc _).alloc _).alloc _).alloc _
  · exact ((((((blk_new_at s1 _ _ rfl).alloc _).alloc _).alloc _).alloc _).alloc _).alloc _
  · exact (((blk_new_at s4 _ _ rfl).alloc _).alloc _).alloc _
  · exact ((blk_new_at s5 _ _ (made_bools n)).alloc _).alloc _
  · exact (blk_new_at s6 _ _ rfl).alloc _
  · exact (blk_new_at s7 _ _ rfl)
  · exact (((((blk_new_at s2 _ _ rfl).alloc _).alloc _).alloc _).alloc _).alloc _
  · exact ((((blk_new_at s3 _ _ rfl).alloc _).alloc _).alloc _).alloc _

theorem own_sl2 {w : World} {B : Nat} {e : TypeId} {A : Option Addr} {c n : Nat} {xs : List Value} (h : w.ownsRow B e 1 (.slice A n c) n xs) : Sl w A n 1 xs := by
  obtain ⟨A', c', e, h'⟩ := own_sl h
  cases e
  exact h'

/-- The end of the walk: the results stand in their variables. -/
theorem walk_end {H n : Nat} {sd : Value} {w w1 : World} {ok : Bool} {os ds : List Int} {bs : List Bool} {v1 v2 : Value} (hW : WS H n sd w w1 ok os ds bs) (hH : w.heap.size = H)
    (b1 : Blk w1 (H + 2) 31 [v1]) (b2 : Blk w1 (H + 3) 31 [v2]) (h2 : Two (H + 8) w1 v1 v2 os ds) (g : Bool) :
    ∃ W, W = (((w1.setCell ⟨H + 2, 0, none⟩ v1).setCell ⟨H + 3, 0, none⟩ v2).setCell ⟨H + 4, 0, none⟩ (.bool g)).drew ∧ Mod (fun _ => False) w W ∧ Two (H + 8) W v1 v2 os ds ∧
      W.cell? ⟨H + 2, 0, none⟩ = some v1 ∧ W.cell? ⟨H + 3, 0, none⟩ = some v2 ∧ W.cell? ⟨H + 4, 0, none⟩ = some (.bool g) := by
  refine ⟨_, rfl, ?_, ?_, ?_, ?_, ?_⟩
  · have := hW.bel
    rw [← hH] at this
    exact ((((Mod.ofBelow this).set (.inr (by show w.heap.size ≤ H + 2; omega)) _).set (.inr (by show w.heap.size ≤ H + 3; omega)) _).set (.inr (by show w.heap.size ≤ H + 4; omega)) _).drew
  · exact h2.keep fun k hk _ => (Below.heap_setCell _ _ _ _ (by show k ≠ H + 4; omega)).trans ((Below.heap_setCell _ _ _ _ (by show k ≠ H + 3; omega)).trans (Below.heap_setCell _ _ _ _ (by show k ≠ H + 2; omega)))
  · exact ((((b1.set 0 v1).other _ (by show H + 3 ≠ H + 2; omega)).other _ (by show H + 4 ≠ H + 2; omega)).drew).at (i := 0) rfl
  · exact ((((b2.other _ (by show H + 2 ≠ H + 3; omega)).set 0 v2).other _ (by show H + 4 ≠ H + 3; omega)).drew).at (i := 0) rfl
  · exact ((((hW.bok.other _ (by show H + 2 ≠ H + 4; omega)).other _ (by show H + 3 ≠ H + 4; omega)).set 0 (.bool g)).drew).at (i := 0) rfl

/-- What the reference's walk tells: where it says yes, the nodes in order, and their depths. -/
def WalkTold (n : Nat) (C F : Nat → Int) (w : World) (e : Ending) (w' : World) : Prop :=
  ∃ A1 c1 m A2 c2 os ds b, e = .returned (.tuple #[.slice A1 m c1, .slice A2 m c2, .bool b]) ∧ Mod (fun _ => False) w w' ∧ Sl w' A1 m 1 (ints os) ∧ Sl w' A2 m 1 (ints ds) ∧
    (b = true → 0 < n → m = n ∧ os = (ino C F n 0 0).map (·.1) ∧ ds = (ino C F n 0 0).map (·.2)) ∧ (0 < n → ∀ s : SH, s.At C F n 0 (-1) → s.ids.Nodup → s.ids.length = n → b = true)

set_option maxHeartbeats 4000000 in
theorem walk_at (T : Option Addr) (c : Nat) (xs : List VN) (pt n : Nat) (w : World) (hn : n = xs.length) (h0 : 0 < n) (hn2 : n ≤ 2147483647) (hb0 : Blk w pt 28 [.slice T xs.length c]) (hN : Nodes w T xs) :
    Calls Tryd.prog 27 #[.int .i64 n, .func (Fn.func 28) #[] #[.pointer (some ⟨pt, 0, none⟩)]] w (WalkTold n (VC xs) (VF xs) w) := by
  have hmk := run_make_row' (P := Tryd.prog) 93 4 (.bool false) 1 Tryd.underlying93 info_bool rfl .i64 .i64 n (by omega) (by omega)
  have HC : Hid (Blk w pt 28 [.slice T xs.length c] ∧ Nodes w T xs ∧ n = xs.length) := ⟨hb0, hN, hn⟩
  clear hb0 hN hn
  go_enter Tryd.func27, Tryd.ntmps27
  go_wp2_with (go_at_call 45; refine (from_at T c xs pt w.heap.size n w rfl HC.out.2.2 hn2 HC.out.1 HC.out.2.1 (n + 1) 0 (-1) 0 _ true [] [] (List.replicate n false) _ (ws_init w w.heap.size n (sdV pt) rfl) (by omega) (by omega) (by omega) (by omega) rfl (by simp) rfl).mono ?_; rintro _ w1 ⟨rfl, ok, os, ds, bs, hW1, hc1, hl1, hr1, hy1⟩)
  obtain ⟨v1, v2, b1, b2, h2r⟩ := hW1.rows
  obtain ⟨A1, c1, rfl, hs1⟩ := own_sl h2r.o1
  obtain ⟨A2, c2, rfl, hs2⟩ := own_sl h2r.o2
  have cO : w1.cell? ⟨w.heap.size + 1 + 1, 0, none⟩ = some (.slice A1 os.length c1) := b1.at (i := 0) rfl
  have cD : w1.cell? ⟨w.heap.size + 1 + 1 + 1, 0, none⟩ = some (.slice A2 ds.length c2) := b2.at (i := 0) rfl
  have cK : w1.cell? ⟨w.heap.size + 1 + 1 + 1 + 1, 0, none⟩ = some (.bool ok) := hW1.bok.at (i := 0) rfl
  have cN : w1.cell? ⟨w.heap.size, 0, none⟩ = some (.int .i64 n) := hW1.bn.at (i := 0) rfl
  have fO : w1.frozen? ⟨w.heap.size + 1 + 1, 0, none⟩ = false := b1.frozen 0
  have fD : w1.frozen? ⟨w.heap.size + 1 + 1 + 1, 0, none⟩ = false := b2.frozen 0
  have fK : w1.frozen? ⟨w.heap.size + 1 + 1 + 1 + 1, 0, none⟩ = false := hW1.bok.frozen 0
  obtain ⟨m, hm⟩ : ∃ m, m = os.length := ⟨_, rfl⟩
  obtain ⟨m2, hm2⟩ : ∃ m, m = ds.length := ⟨_, rfl⟩
  have HL := Lib.hid (And.intro hm (And.intro hm2 hl1))
  rw [← hm] at cO
  rw [← hm2] at cD
  have HE : Hid (∀ g : Bool, ∃ W, W = (((w1.setCell ⟨w.heap.size + 1 + 1, 0, none⟩ (.slice A1 m c1)).setCell ⟨w.heap.size + 1 + 1 + 1, 0, none⟩ (.slice A2 m2 c2)).setCell ⟨w.heap.size + 1 + 1 + 1 + 1, 0, none⟩ (.bool g)).drew ∧ Mod (fun _ => False) w W ∧ Two (w.heap.size + 8) W (.slice A1 m c1) (.slice A2 m2 c2) os ds ∧
      W.cell? ⟨w.heap.size + 1 + 1, 0, none⟩ = some (.slice A1 m c1) ∧ W.cell? ⟨w.heap.size + 1 + 1 + 1, 0, none⟩ = some (.slice A2 m2 c2) ∧ W.cell? ⟨w.heap.size + 1 + 1 + 1 + 1, 0, none⟩ = some (.bool g)) := by
    show ∀ g : Bool, _
    rw [hm, hm2]
    exact walk_end hW1 rfl b1 b2 h2r
  have HR := Lib.hid hr1
  have HY := Lib.hid hy1
  clear hm hm2 hl1 hs1 hs2 h2r b1 b2 hW1 hr1 hy1
  cases ok with
  | false =>
    go_region
    obtain ⟨W, eW, hM, hT, e1, e2, e3⟩ := HE.out false
    rw [← eW]
    clear eW
    go_wp2_with fail
    refine bodyPost_ret (v := .tuple #[.slice A1 m c1, .slice A2 m2 c2, .bool false]) (by simp [results, Tryd.results27, go_sem, e1, e2, e3]) rfl ?_
    obtain ⟨hmo, hmd, hl⟩ := HL.out
    obtain rfl : m2 = m := by omega
    have ho := hT.o1
    have hd := hT.o2
    rw [← hmo] at ho
    rw [← hmd] at hd
    exact ⟨A1, c1, m2, A2, c2, os, ds, false, rfl, hM, own_sl2 ho, own_sl2 hd, (fun h => by cases h), fun _ s hs hn _ => (HY.out s rfl hs hn (fun k hk => rep_false (by have := s.at_lt hs k hk; omega))).1⟩
  | true =>
    obtain ⟨g, hg⟩ : ∃ g : Bool, ((m : Int) == (n : Int)) = g := ⟨_, rfl⟩
    go_region
    obtain ⟨W, eW, hM, hT, e1, e2, e3⟩ := HE.out g
    rw [← eW]
    clear eW
    go_wp2_with fail
    refine bodyPost_ret (v := .tuple #[.slice A1 m c1, .slice A2 m2 c2, .bool g]) (by simp [results, Tryd.results27, go_sem, e1, e2, e3]) rfl ?_
    obtain ⟨hmo, hmd, hl⟩ := HL.out
    obtain rfl : m2 = m := by omega
    have ho := hT.o1
    have hd := hT.o2
    rw [← hmo] at ho
    rw [← hmd] at hd
    refine ⟨A1, c1, m2, A2, c2, os, ds, g, rfl, hM, own_sl2 ho, own_sl2 hd, fun h hn => ?_, fun hn s hs _ hl => ?_⟩
    rotate_left
    · obtain ⟨_, _, ho1, _⟩ := HR.out (by trivial)
      have h2 := congrArg List.length ho1
      rw [List.nil_append, List.length_map, s.at_len hs, hl] at h2
      rw [← hg, hmo, h2]
      simp
    rw [h] at hg
    obtain ⟨_, _, ho1, hd1⟩ := HR.out (by trivial)
    have hch : chl (VC xs) (VF xs) n 0 (-1) 0 = ino (VC xs) (VF xs) n 0 0 := by
      unfold chl
      rw [if_pos ⟨by omega, by omega⟩]
      rfl
    rw [hch] at ho1 hd1
    exact ⟨by have := eq_of_beq hg; omega, by simpa using ho1, by simpa using hd1⟩

set_option maxHeartbeats 4000000 in
theorem vwalk_at (T : Option Addr) (c n : Nat) (xs : List VN) (w : World) (hn : n = xs.length) (h0 : 0 < n) (hn2 : n ≤ 2147483647) (hN : Nodes w T xs) :
    Calls Tryd.prog 9 #[.slice T n c] w (WalkTold n (VC xs) (VF xs) w) := by
  have HC : Hid (Nodes w T xs ∧ n = xs.length) := ⟨hN, hn⟩
  clear hN hn
  go_enter Tryd.func9, Tryd.ntmps9
  go_wp2_with (go_at_call 27; refine (walk_at T c xs w.heap.size n _ HC.out.2 h0 hn2 (by rw [← HC.out.2]; exact blk_new_at rfl _ _ rfl) (HC.out.1.mod ((Mod.refl _ _).alloc _))).mono ?_; rintro _ w1 ⟨A1, c1, m, A2, c2, os, ds, b, rfl, hM, hs1, hs2, hb, hy⟩)
  exact bodyPost_ret (v := .tuple #[.slice A1 m c1, .slice A2 m c2, .bool b]) (by simp [results, Tryd.results9, go_sem]) rfl ⟨A1, c1, m, A2, c2, os, ds, b, rfl, ((Mod.refl _ _).alloc _).trans hM, hs1, hs2, hb, hy⟩
end Go.Proofs.YtpamoleocjdjiaaDoor.W

namespace Lox.VB
variable {α : Type}
theorem T.each_mono {P Q : α → Nat → T α → T α → Prop} (h : ∀ p r l g, P p r l g → Q p r l g) : ∀ t : T α, t.Each P → t.Each Q := by
  intro t
  induction t with
  | nil => intro _; trivial
  | node p r l g ihl ihg => rintro ⟨h1, h2, h3⟩; exact ⟨h _ _ _ _ h1, ihl h2, ihg h3⟩
end Lox.VB
namespace Go.Proofs.YtpamoleocjdjiaaDoor
open Go.RowKit Lox
set_option linter.unusedVariables false

/-- In the rows, from place i on, the tree is written down. -/
def VSeg (rs : List VR) (vt : VT) (i : Nat) : Prop := ∀ j x, (vt.flat i)[j]? = some x → ∃ y, rs[i + j]? = some y ∧ y.plain = x

theorem vseg_root {rs : List VR} {vt : VT} (h : rs.map VR.plain = vt.flat 0) : VSeg rs vt 0 := by
  intro j x hx
  rw [← h, List.getElem?_map] at hx
  rw [Nat.zero_add]
  cases hr : rs[j]? with
  | none => rw [hr] at hx; simp at hx
  | some y => rw [hr] at hx; simp only [Option.map_some, Option.some.injEq] at hx; exact ⟨y, rfl, hx⟩

theorem VSeg.left {rs : List VR} {g d i : Nat} {p : TP} {l r : VT} (h : VSeg rs (.node g p d l r) i) : VSeg rs l (i + 1) := by
  intro j x hx
  have hj := (List.getElem?_eq_some_iff.1 hx).1
  have e : i + 1 + j = i + (j + 1) := by omega
  rw [e]
  refine h (j + 1) x ?_
  simp only [VT.flat, List.getElem?_cons_succ]
  rw [List.getElem?_append_left hj]
  exact hx

theorem VSeg.right {rs : List VR} {g d i : Nat} {p : TP} {l r : VT} (h : VSeg rs (.node g p d l r) i) : VSeg rs r (i + 1 + l.count) := by
  intro j x hx
  have e : i + 1 + l.count + j = i + (l.count + j + 1) := by omega
  rw [e]
  refine h (l.count + j + 1) x ?_
  simp only [VT.flat, List.getElem?_cons_succ]
  rw [List.getElem?_append_right (by rw [VT.flat_len]; omega), VT.flat_len, show l.count + j - l.count = j from by omega]
  exact hx

theorem vseg_node {rs : List VR} {g d i : Nat} {p : TP} {l r : VT} (h : VSeg rs (.node g p d l r) i) : ∃ y, rs[i]? = some y ∧ y.plain = ⟨p.xs, d, l.at (i + 1), r.at (i + 1 + l.count)⟩ := by
  obtain ⟨y, h1, h2⟩ := h 0 ⟨p.xs, d, l.at (i + 1), r.at (i + 1 + l.count)⟩ rfl
  exact ⟨y, h1, h2⟩

theorem vsq_xs {dims : Nat} {p p' q q' : TP} (h : p.xs = p'.xs) (k : q.xs = q'.xs) : vsq dims p q = vsq dims p' q' := by unfold vsq; rw [h, k]

theorem sqx_comm (xs ys : List Nat) : ∀ k, sqx xs ys k = sqx ys xs k := by
  intro k
  induction k with
  | zero => rfl
  | succ k ih =>
    simp only [sqx, ih]
    generalize zi (xs.getD k 0) = a
    generalize zi (ys.getD k 0) = b
    have : (a - b) * (a - b) = (b - a) * (b - a) := by grind
    omega

/-- The shape of a tree that is written down from place i on. -/
def VT.sh : VT → Nat → SH
  | .nil, _ => .nil
  | .node _ _ _ l r, i => .node i (VT.sh l (i + 1)) (VT.sh r (i + 1 + l.count))

theorem VT.sh_ids : ∀ (t : VT) (i : Nat), ((VT.sh t i).ids.Nodup ∧ (VT.sh t i).ids.length = t.count) ∧ ∀ k ∈ (VT.sh t i).ids, i ≤ k ∧ k < i + t.count := by
  intro t
  induction t with
  | nil => intro i; exact ⟨⟨List.nodup_nil, rfl⟩, fun k hk => by cases hk⟩
  | node g p d l r ihl ihr =>
    intro i
    obtain ⟨⟨a1, a2⟩, a3⟩ := ihl (i + 1)
    obtain ⟨⟨b1, b2⟩, b3⟩ := ihr (i + 1 + l.count)
    refine ⟨⟨?_, by simp only [VT.sh, SH.ids, VT.count, List.length_cons, List.length_append, a2, b2]; omega⟩, fun k hk => ?_⟩
    · show (i :: ((VT.sh l (i + 1)).ids ++ (VT.sh r (i + 1 + l.count)).ids)).Nodup
      refine List.nodup_cons.2 ⟨fun h => ?_, List.nodup_append.2 ⟨a1, b1, fun a ha b hb e => ?_⟩⟩
      · rcases List.mem_append.1 h with h | h
        · have := a3 _ h; omega
        · have := b3 _ h; omega
      · have := a3 a ha; have := b3 b hb; omega
    · have hk : k ∈ i :: ((VT.sh l (i + 1)).ids ++ (VT.sh r (i + 1 + l.count)).ids) := hk
      simp only [VT.count]
      rcases List.mem_cons.1 hk with rfl | hk
      · omega
      · rcases List.mem_append.1 hk with hk | hk
        · have := a3 k hk; omega
        · have := b3 k hk; omega

theorem VT.sh_ord_len (t : VT) (i : Nat) : (VT.sh t i).ord.length = t.count := by rw [SH.ord_len]; exact (VT.sh_ids t i).1.2

/-- The points of the nodes in the walk's order are the tree's. -/
theorem VT.sh_pts {rs : List VR} : ∀ (t : VT) (i : Nat), VSeg rs t i → (VT.sh t i).ord.map (fun k => (rs[k]?).map fun y => y.p.xs) = t.pts.map fun p => some p.xs := by
  intro t
  induction t with
  | nil => intro i _; rfl
  | node g p d l r ihl ihr =>
    intro i h
    obtain ⟨y, hy, ey⟩ := vseg_node h
    have e1 : y.p.xs = p.xs := congrArg PV.xs ey
    simp only [VT.sh, SH.ord, VT.pts, List.map_append, List.map_cons, ihl _ h.left, ihr _ h.right, hy, Option.map_some, e1]

theorem VT.sh_mem {rs : List VR} {t : VT} {i : Nat} (h : VSeg rs t i) {j : Nat} (hj : j ∈ (VT.sh t i).ord) : ∃ y, rs[j]? = some y ∧ ∃ p ∈ t.pts, y.p.xs = p.xs := by
  have h1 : ((rs[j]?).map fun y => y.p.xs) ∈ (t.pts.map fun p => some p.xs) := by
    rw [← VT.sh_pts t i h]
    exact List.mem_map_of_mem (f := fun k => (rs[k]?).map fun y => y.p.xs) hj
  obtain ⟨p, hp, e⟩ := List.mem_map.1 h1
  cases hr : rs[j]? with
  | none => rw [hr] at e; cases e
  | some y => rw [hr] at e; exact ⟨y, rfl, p, hp, by simpa using e.symm⟩

theorem VT.sh_some {rs : List VR} {t : VT} {i : Nat} (h : VSeg rs t i) {p : TP} (hp : p ∈ t.pts) : ∃ j ∈ (VT.sh t i).ord, ∃ y, rs[j]? = some y ∧ y.p.xs = p.xs := by
  have h1 : some p.xs ∈ (VT.sh t i).ord.map (fun k => (rs[k]?).map fun y => y.p.xs) := by
    rw [VT.sh_pts t i h]
    exact List.mem_map_of_mem (f := fun p => some p.xs) hp
  obtain ⟨j, hj, e⟩ := List.mem_map.1 h1
  cases hr : rs[j]? with
  | none => rw [hr] at e; cases e
  | some y => rw [hr] at e; exact ⟨j, hj, y, hr, by simpa using e⟩

/-- What holds at a row of the tree. -/
def RowOk (rs : List VR) (dims : Nat) (y : VR) (l r : SH) : Prop :=
  (1 + l.ord.length + r.ord.length = 1 → y.rd = 0) ∧
  (1 < 1 + l.ord.length + r.ord.length → r.ord.length = (1 + l.ord.length + r.ord.length) - (1 + l.ord.length + r.ord.length) / 2 ∧
    ∃ s, Dst y.rd s ∧ (∃ j ∈ r.ord, ∃ z, rs[j]? = some z ∧ vsq dims y.p z.p = s) ∧ (∀ j ∈ r.ord, ∃ z, rs[j]? = some z ∧ s ≤ vsq dims y.p z.p) ∧ ∀ j ∈ l.ord, ∃ z, rs[j]? = some z ∧ vsq dims y.p z.p ≤ s)

/-- A node in the midst of a tree that is written down. -/
theorem VT.sh_node {rs : List VR} {dims : Nat} : ∀ (t : VT) (i : Nat), VSeg rs t i → (∀ p ∈ t.pts, p.xs.length = dims ∧ p.Gr) → t.T.Each (VB.NodeOk (vsq dims)) → ∀ k y, i ≤ k → k < i + t.count → rs[k]? = some y →
    y.p.xs.length = dims ∧ y.p.Gr ∧ ∃ (tl tr : VT), VSeg rs tl (k + 1) ∧ VSeg rs tr (k + 1 + tl.count) ∧ y.l = tl.at (k + 1) ∧ y.r = tr.at (k + 1 + tl.count) ∧ tl.count + tr.count + 1 ≤ t.count ∧ RowOk rs dims y (VT.sh tl (k + 1)) (VT.sh tr (k + 1 + tl.count)) := by
  intro t
  induction t with
  | nil => intro i _ _ _ k y h1 h2; simp only [VT.count] at h2; omega
  | node g p d l r ihl ihr =>
    intro i h hp he k y h1 h2 hy
    obtain ⟨⟨n1, n2⟩, e3, e4⟩ := he
    by_cases hk : k = i
    · subst hk
      obtain ⟨y', hy', ey⟩ := vseg_node h
      rw [hy] at hy'
      cases hy'
      have a1 : y.p.xs = p.xs := congrArg PV.xs ey
      have a2 : y.rd = d := congrArg PV.rd ey
      have a3 : y.l = l.at (k + 1) := congrArg PV.l ey
      have a4 : y.r = r.at (k + 1 + l.count) := congrArg PV.r ey
      obtain ⟨q1, q2⟩ := hp p (by simp [VT.pts])
      have cl : l.T.pts.length = l.count := by rw [← VT.pts_all, VT.count_pts]
      have cr : r.T.pts.length = r.count := by rw [← VT.pts_all, VT.count_pts]
      rw [cl, cr] at n1 n2
      refine ⟨by rw [a1]; exact q1, by unfold TP.Gr TP.n at *; rw [a1]; exact q2, l, r, h.left, h.right, a3, a4, by simp only [VT.count]; omega, ?_⟩
      refine ⟨fun hz => ?_, fun hz => ?_⟩
      · rw [VT.sh_ord_len, VT.sh_ord_len] at hz
        rw [a2]; exact n1 hz
      · rw [VT.sh_ord_len, VT.sh_ord_len] at hz ⊢
        obtain ⟨m1, s, m2, ⟨x, hx, ex⟩, m3, m4⟩ := n2 hz
        refine ⟨m1, s, by rw [a2]; exact m2, ?_, fun j hj => ?_, fun j hj => ?_⟩
        · rw [← VT.pts_all] at hx
          obtain ⟨j, hj, z, hz, ez⟩ := VT.sh_some h.right hx
          exact ⟨j, hj, z, hz, by rw [vsq_xs a1 ez]; exact ex⟩
        · obtain ⟨z, hz, x, hx, ez⟩ := VT.sh_mem h.right hj
          exact ⟨z, hz, by rw [vsq_xs a1 ez]; exact m3 x (by rw [← VT.pts_all]; exact hx)⟩
        · obtain ⟨z, hz, x, hx, ez⟩ := VT.sh_mem h.left hj
          exact ⟨z, hz, by rw [vsq_xs a1 ez]; exact m4 x (by rw [← VT.pts_all]; exact hx)⟩
    · simp only [VT.count] at h2
      by_cases hk2 : k < i + 1 + l.count
      · obtain ⟨w1, w2, tl, tr, w3, w4, w5, w6, w7, w8⟩ := ihl (i + 1) h.left (fun x hx => hp x (by simp [VT.pts, hx])) e3 k y (by omega) (by omega) hy
        exact ⟨w1, w2, tl, tr, w3, w4, w5, w6, by simp only [VT.count]; omega, w8⟩
      · obtain ⟨w1, w2, tl, tr, w3, w4, w5, w6, w7, w8⟩ := ihr (i + 1 + l.count) h.right (fun x hx => hp x (by simp [VT.pts, hx])) e4 k y (by omega) (by omega) hy
        exact ⟨w1, w2, tl, tr, w3, w4, w5, w6, by simp only [VT.count]; omega, w8⟩
end Go.Proofs.YtpamoleocjdjiaaDoor
namespace Go.Proofs.YtpamoleocjdjiaaDoor.W
open Go.RowKit Lox
set_option linter.unusedVariables false

/-- A point as the reference's walks have it. -/
def ptOf (p : TP) : Pt := ⟨p.A, p.xs.length, p.c, p.xs⟩
/-- A row as the reference's walks have it. -/
def vnOf (x : VR) : VN := ⟨ptOf x.p, x.rd, x.l, x.r⟩

theorem vnodes_of {B : Nat} {w : World} {dims n c : Nat} {A : Option Addr} {rs : List VR} (h : VS B w dims (.slice A n c) rs) (hd : dims ≤ 1099511627776) (hb : rs.length ≤ 9223372036854775807) : Nodes w A (rs.map vnOf) := by
  refine ⟨by rw [List.length_map]; exact hb, fun h0 => ?_, fun x hx => ?_⟩
  · rw [List.length_map] at h0
    obtain ⟨g, cap, e, -, -⟩ := h.own.form h0
    injection e with e1 e2 e3
    subst e1
    refine ⟨g, 0, rfl, fun i x hx => ?_⟩
    rw [List.getElem?_map] at hx
    cases hi : rs[i]? with
    | none => rw [hi] at hx; cases hx
    | some y =>
      rw [hi] at hx
      have hx : vnOf y = x := by simpa using hx
      subst hx
      have hn : n = rs.length := e2
      have q := fun (j : Nat) (hj : j < 4) => (h.cell hn hi (j := j) hj).1
      rw [Nat.zero_add]
      exact ⟨q 0 (by omega), q 1 (by omega), q 2 (by omega), q 3 (by omega)⟩
  · obtain ⟨y, hy, rfl⟩ := List.mem_map.1 hx
    have h1 := h.ok y hy
    exact ⟨h1.1.2, by show y.p.xs.length ≤ _; rw [h1.1.1]; omega⟩

theorem vc_at {rs : List VR} {k : Nat} {y : VR} (h : rs[k]? = some y) : VC (rs.map vnOf) k = y.l ∧ VF (rs.map vnOf) k = y.r := by
  unfold VC VF
  rw [List.getElem?_map, h]
  exact ⟨rfl, rfl⟩

theorem sh_at {rs : List VR} {n : Nat} (hn : rs.length = n) : ∀ (t : VT) (i : Nat) (above : Int), VSeg rs t i → above < i → (VT.sh t i).At (VC (rs.map vnOf)) (VF (rs.map vnOf)) n (t.at i) above := by
  intro t
  induction t with
  | nil => intro i above _ _; rfl
  | node g p d l r ihl ihr =>
    intro i above h ha
    obtain ⟨y, hy, ey⟩ := vseg_node h
    obtain ⟨k1, k2⟩ := vc_at hy
    have hi := (List.getElem?_eq_some_iff.1 hy).1
    have e1 : y.l = l.at (i + 1) := by have := congrArg PV.l ey; exact this
    have e2 : y.r = r.at (i + 1 + l.count) := by have := congrArg PV.r ey; exact this
    refine ⟨rfl, ha, by omega, ?_, ?_⟩
    · rw [k1, e1]; exact ihl (i + 1) i h.left (by omega)
    · rw [k2, e2]; exact ihr (i + 1 + l.count) i h.right (by omega)

theorem at_zero {t : VT} (h : 0 < t.count) : t.at 0 = 0 := by
  cases t with
  | nil => simp [VT.count] at h
  | node g p d l r => rfl

/-- The points of the rows that a shape names. -/
def ptsAt (rs : List VR) (s : SH) : List TP := s.ord.map fun k => ((rs[k]?).map VR.p).getD ⟨none, 0, []⟩

theorem pvv_at {rs : List VR} {k : Nat} : PVv (rs.map vnOf) k = (((rs[k]?).map VR.p).getD ⟨none, 0, []⟩).v := by
  unfold PVv
  rw [List.getElem?_map]
  cases rs[k]? with
  | none => rfl
  | some y => rfl

theorem pvv_map {rs : List VR} (s : SH) : s.ord.map (PVv (rs.map vnOf)) = (ptsAt rs s).map TP.v := by
  unfold ptsAt
  rw [List.map_map]
  exact List.map_congr_left fun k _ => pvv_at

/-- The row of points that VBelow tells. -/
theorem prows_of {w w' : World} {dims n c : Nat} {A : Option Addr} {rs : List VR} {s : SH} {B : Nat} {X : Option Addr} {v : Value} (hs : ∀ k ∈ s.ord, k < rs.length) (hK : VS B w' dims v rs) (hX : Sl w' X s.ord.length 1 (s.ord.map (PVv (rs.map vnOf)))) (hd : dims ≤ 1099511627776) : PRows w' X s.ord.length (ptsAt rs s) dims := by
  refine ⟨by rw [← pvv_map]; exact hX, fun p hp => ?_⟩
  obtain ⟨k, hk, rfl⟩ := List.mem_map.1 hp
  have e := List.getElem?_eq_getElem (hs k hk)
  have h1 := hK.ok _ (List.getElem_mem (hs k hk))
  rw [e]
  exact ⟨⟨h1.1.2, by show (rs[k]'(hs k hk)).p.xs.length ≤ _; rw [h1.1.1]; omega⟩, h1.1.1⟩
end Go.Proofs.YtpamoleocjdjiaaDoor.W

namespace Lox
open Go Go.RowKit
set_option linter.unusedVariables false

/-- How many of a key have been taken. -/
def cu (κ : List Int) : List Bool → List (List Int) → Nat
  | true :: U, k :: ks => (if k = κ then 1 else 0) + cu κ U ks
  | false :: U, _ :: ks => cu κ U ks
  | [], _ => 0
  | true :: _, [] => 0
  | false :: _, [] => 0

theorem cu_set (κ : List Int) : ∀ (U : List Bool) (ks : List (List Int)) (j : Nat) (k : List Int), U[j]? = some false → ks[j]? = some k → cu κ (U.set j true) ks = cu κ U ks + (if k = κ then 1 else 0) := by
  intro U
  induction U with
  | nil => intro ks j k h; simp at h
  | cons b U ih =>
    intro ks j k h hk
    cases ks with
    | nil => simp at hk
    | cons a ks =>
      cases j with
      | zero =>
        simp only [List.getElem?_cons_zero, Option.some.injEq] at h hk
        subst h hk
        simp only [List.set_cons_zero, cu]
        omega
      | succ j =>
        simp only [List.getElem?_cons_succ] at h hk
        have := ih ks j k h hk
        cases b <;> simp only [List.set_cons_succ, cu, this]
        omega

theorem cu_all (κ : List Int) : ∀ (U : List Bool) (ks : List (List Int)), U.length = ks.length → (∀ j : Nat, ks[j]? = some κ → U[j]? = some true) → cu κ U ks = ks.count κ := by
  intro U
  induction U with
  | nil => intro ks hl _; have : ks = [] := List.length_eq_zero_iff.1 hl.symm; rw [this]; rfl
  | cons b U ih =>
    intro ks hl h
    cases ks with
    | nil => cases hl
    | cons a ks =>
      have h2 := ih ks (by simpa using hl) fun j hj => by have := h (j + 1) (by simpa using hj); simpa using this
      have h0 := h 0
      simp only [List.getElem?_cons_zero, Option.some.injEq] at h0
      rw [List.count_cons]
      cases b with
      | true =>
        simp only [cu, h2]
        by_cases ha : a = κ
        · rw [if_pos ha, if_pos (by rw [ha]; exact beq_self_eq_true _)]; omega
        · rw [if_neg ha, if_neg (by simpa using ha)]; omega
      | false =>
        have ha : ¬ a = κ := fun e => by cases h0 e
        simp only [cu, h2]
        rw [if_neg (by simpa using ha)]
        omega

theorem cu_zero (κ : List Int) : ∀ (m : Nat) (ks : List (List Int)), cu κ (List.replicate m false) ks = 0 := by
  intro m
  induction m with
  | zero => intro ks; rfl
  | succ m ih => intro ks; rw [List.replicate_succ]; cases ks <;> simp [cu, ih]

theorem cu_left {κ : List Int} {U : List Bool} {ks gs : List (List Int)} {k : Nat} (hl : U.length = ks.length) (hU : cu κ U ks = (gs.take k).count κ) (hk : gs[k]? = some κ) (hc : gs.count κ ≤ ks.count κ) (h : ∀ j : Nat, j < ks.length → U[j]? = some true ∨ ks[j]? ≠ some κ) : False := by
  have h1 := cu_all κ U ks hl fun j hj => by
    rcases h j (List.getElem?_eq_some_iff.1 hj).1 with h | h
    · exact h
    · exact absurd hj h
  have h2 : (gs.take (k + 1)).count κ ≤ gs.count κ := (List.take_sublist _ _).count_le κ
  rw [List.take_add_one, hk, List.count_append] at h2
  simp only [Option.toList_some, List.count_singleton_self] at h2
  omega
end Lox
namespace Go.Proofs.YtpamoleocjdjiaaDoor
open Go.RowKit Lox
set_option linter.unusedVariables false
attribute [local go_sem] run_store_flt run_store_fn

/-- A point's numbers. -/
noncomputable def TP.key (p : TP) : List Int := p.xs.map zi

set_option maxHeartbeats 1000000 in
theorem same_at (A B : Option Addr) (n c c' : Nat) (xs ys : List Nat) (b : Bool) (w : World) (ha : Sl w A n 1 (flts xs)) (hb : Sl w B n 1 (flts ys)) (hn : n ≤ 9223372036854775807) (hx : ∀ x ∈ xs, ∃ n, Wh x n) (hy : ∀ x ∈ ys, ∃ n, Wh x n) (hbb : b = decide (xs.map zi = ys.map zi)) :
    Calls Tryd.prog 46 #[.slice A n c, .slice B n c'] w fun e w' => e = .returned (.bool b) ∧ w = w' := by
  have hl : xs.length = n := by have := ha.1; simpa [flts] using this
  have hl2 : ys.length = n := by have := hb.1; simpa [flts] using this
  have HH := Lib.hid (And.intro ha (And.intro hb (And.intro hx (And.intro hy (And.intro hl (And.intro hl2 hbb))))))
  clear ha hb hx hy hl hl2 hbb
  go_enter Tryd.func46, Tryd.ntmps46
  go_wp2
  go_loop [14] (fun i => ∃ k : Nat, k ≤ n ∧ i = .int .i64 k ∧ Hid (∀ j, j < k → zi (xs.getD j 0) = zi (ys.getD j 0))) (fun i => n - (intOf i).toNat)
  case atStart => exact ⟨0, Nat.zero_le _, rfl, fun j hj => by omega⟩
  case round =>
    obtain ⟨k, hk, rfl, HR⟩ := hrel
    by_cases hlt : k < n
    · obtain ⟨b1, o1, v1, e1, f1, c1⟩ := HH.out.1.at1 hlt
      obtain ⟨b2, o2, v2, e2, f2, c2⟩ := HH.out.2.1.at1 hlt
      have k1 : k < xs.length := by rw [HH.out.2.2.2.2.1]; exact hlt
      have k2 : k < ys.length := by rw [HH.out.2.2.2.2.2.1]; exact hlt
      rw [flts_getD k1] at f1
      rw [flts_getD k2] at f2
      cases f1
      cases f2
      have gx : ∃ n, Wh (xs.getD k 0) n := HH.out.2.2.1 _ (mem_getD k1)
      have gy : ∃ n, Wh (ys.getD k 0) n := HH.out.2.2.2.1 _ (mem_getD k2)
      have heq := (zi_wh gx).1.eq (zi_wh gy).1
      have HK := Lib.hid (And.intro k1 k2)
      subst e1 e2
      by_cases hz : zi (xs.getD k 0) = zi (ys.getD k 0)
      · rw [decide_eq_true hz] at heq
        have HZ := Lib.hid hz
        clear hz gx gy k1 k2
        generalize xs.getD k 0 = x at c1 heq
        generalize ys.getD k 0 = y at c2 heq
        have hne : (FloatKind.f64.format.order x y != some .eq) = false := by rw [bne, heq]; rfl
        go_wp2
        go_round
        case rel =>
          refine ⟨k + 1, by omega, by go_num, fun j hj => ?_⟩
          rcases Nat.lt_or_ge j k with h | h
          · exact HR.out j h
          · obtain rfl : j = k := by omega
            exact HZ.out
        case measure => simp [intOf]; omega
      · rw [decide_eq_false hz] at heq
        have HZ : Hid (b = false) := by
          show b = false
          rw [HH.out.2.2.2.2.2.2]
          refine decide_eq_false fun e => hz ?_
          have h1 := congrArg (fun l => l[k]?) e
          simp only [List.getElem?_map, List.getElem?_eq_getElem HK.out.1, List.getElem?_eq_getElem HK.out.2, Option.map_some, Option.some.injEq] at h1
          have a1 : xs.getD k 0 = xs[k]'HK.out.1 := by simp [HK.out.1]
          have a2 : ys.getD k 0 = ys[k]'HK.out.2 := by simp [HK.out.2]
          rw [a1, a2]
          exact h1
        clear hz gx gy k1 k2
        generalize xs.getD k 0 = x at c1 heq
        generalize ys.getD k 0 = y at c2 heq
        have hne : (FloatKind.f64.format.order x y != some .eq) = true := by rw [bne, heq]; rfl
        go_wp2
        go_ret
        exact ⟨by rw [HZ.out]; rfl, rfl⟩
    · obtain rfl : k = n := by omega
      have HZ : Hid (b = true) := by
        show b = true
        rw [HH.out.2.2.2.2.2.2]
        refine decide_eq_true (List.ext_getElem (by simp [HH.out.2.2.2.2.1, HH.out.2.2.2.2.2.1]) fun j h1 h2 => ?_)
        rw [List.length_map] at h1 h2
        have := HR.out j (by have := HH.out.2.2.2.2.1; omega)
        simpa [h1, h2] using this
      go_wp2
      go_ret
      exact ⟨by rw [HZ.out]; rfl, rfl⟩

theorem info_bool : (Tryd.prog.info? 4).map (fun i => (i.zero, i.size, i.bytes)) = some (some (.bool false), 1, 1) := by kernel_rfl

theorem blk_of_full {w : World} {B e n g : Nat} {xs : List Value} (h : w.ownsRow B e 1 (.slice (some ⟨g, 0, none⟩) n n) n xs) : Blk w g e xs := by
  obtain ⟨h1, h2⟩ := h
  rcases h2 with ⟨h2, _⟩ | ⟨g', cap, cur, h2, hb, hg, hn, hm, hs, ht⟩
  · cases h2
  · simp only [Value.slice.injEq, Option.some.injEq, Addr.mk.injEq] at h2
    obtain ⟨⟨rfl, _⟩, _, rfl⟩ := h2
    unfold Blk
    rw [hg]
    have : cur.toList = xs := by rw [← ht, List.take_of_length_le (by simp; omega)]
    rw [← this]

theorem made_falses (n : Nat) : (madeCells (Value.bool false).cells (n * 1)).toList = (List.replicate n false).map Value.bool := by
  apply List.ext_getElem?
  intro i
  simp [madeCells, Value.cells, List.getElem?_replicate]
  by_cases hi : i < n <;> simp [hi]
  simp [Nat.mod_one]

/-- The outer loop's state: which have been taken. -/
structure AM (H m : Nat) (gs ps : List TP) (k : Nat) (U : List Bool) (w w' : World) : Prop where
  blk : Blk w' H 4 (U.map Value.bool)
  len : U.length = m
  cnt : ∀ κ, cu κ U (ps.map TP.key) = ((gs.map TP.key).take k).count κ
  mod : Mod (fun _ => False) w w'

theorem AM.step {H m k j : Nat} {gs ps : List TP} {U : List Bool} {w w' : World} {p q : TP} (h : AM H m gs ps k U w w') (hH : w.heap.size ≤ H) (hp : gs[k]? = some p) (hq : ps[j]? = some q) (hU : U[j]? = some false) (he : p.key = q.key) : AM H m gs ps (k + 1) (U.set j true) w (w'.setCell ⟨H, j, none⟩ (.bool true)) := by
  refine ⟨?_, by rw [List.length_set]; exact h.len, fun κ => ?_, h.mod.set (p := ⟨H, j, none⟩) (.inr hH) _⟩
  · have := h.blk.set j (.bool true)
    rw [List.map_set]
    exact this
  · have hk : (gs.map TP.key)[k]? = some p.key := by rw [List.getElem?_map, hp]; rfl
    rw [cu_set κ U _ j q.key hU (by rw [List.getElem?_map, hq]; rfl), h.cnt κ, List.take_add_one, hk, List.count_append]
    simp only [Option.toList_some, List.count_singleton]
    rw [he]
    by_cases e : q.key = κ
    · rw [if_pos e, if_pos (by rw [e]; exact beq_self_eq_true _)]
    · rw [if_neg e, if_neg (by simpa using e)]

set_option maxRecDepth 100000 in
set_option maxHeartbeats 8000000 in
theorem among_at (A I : Option Addr) (n c m ci dims : Nat) (gs ps : List TP) (w : World) (hg : PRows w A n gs dims) (hp : PRows w I m ps dims) (gg : ∀ p ∈ gs, p.Gr) (gp : ∀ p ∈ ps, p.Gr) (hn : n ≤ 2147483647 ∧ m ≤ 2147483647) (hd : dims ≤ 9223372036854775807) (hc : ∀ κ, (gs.map TP.key).count κ ≤ (ps.map TP.key).count κ) :
    Calls Tryd.prog 29 #[.slice A n c, .slice I m ci] w fun e w' => e = .returned (.bool true) ∧ Mod (fun _ => False) w w' := by
  obtain ⟨i0, hi0, hz0, hz1, hz2⟩ := info_parts info_bool
  have HI := Lib.hid (And.intro hi0 (And.intro hz0 (And.intro hz1 hz2)))
  clear hi0 hz0 hz1 hz2
  have hgl := hg.len
  have hpl := hp.len
  have HH := Lib.hid (And.intro hg (And.intro hp (And.intro gg (And.intro gp (And.intro hc (And.intro hgl hpl))))))
  clear hg hp gg gp hc hgl hpl
  go_enter Tryd.func29, Tryd.ntmps29
  go_wp2_with (at_make; refine wpList_make_full _ rfl _ _ 93 rfl 0 4 i0 (.bool false) 1 Tryd.underlying93 HI.out.1 HI.out.2.1 HI.out.2.2.1 _ _ _ _ m rfl rfl rfl rfl (by rw [HI.out.2.2.2]; omega) (by unfold maxLen; omega) (Nat.zero_le _) ?_; intro w3 hown3 hgrow3)
  have hseen : Blk w3 w.heap.size 4 ((List.replicate m false).map Value.bool) := by
    rw [← made_falses]; exact blk_of_full hown3
  have hm3 : Mod (fun _ => False) w w3 := mod_of_grown hgrow3
  have HA0 : Hid (AM w.heap.size m gs ps 0 (List.replicate m false) w w3) := ⟨hseen, by simp, fun κ => by rw [cu_zero]; rfl, hm3⟩
  obtain ⟨H, hH⟩ : ∃ H, H = w.heap.size := ⟨_, rfl⟩
  rw [← hH] at HA0
  rw [← hH]
  have HHH := Lib.hid hH
  clear hown3 hgrow3 hseen hm3 hH
  go_loopw [16] (fun i wr => ∃ (k : Nat) (U : List Bool), k ≤ n ∧ i = .int .i64 k ∧ Hid (AM H m gs ps k U w wr)) (fun i _ => n - (intOf i).toNat)
  case atStart => exact ⟨0, _, Nat.zero_le _, rfl, HA0.out⟩
  case round =>
    obtain ⟨k, U, hk, rfl, HR⟩ := hrel
    by_cases hlt : k < n
    · have hgr := HH.out.1.mod HR.out.mod
      obtain ⟨b, o, v0, e1, e2, c1⟩ := hgr.1.at1 hlt
      have hk2 : k < gs.length := by rw [HH.out.2.2.2.2.2.1]; exact hlt
      obtain ⟨p, ep⟩ : ∃ p, p = gs[k] := ⟨_, rfl⟩
      have hpk : gs[k]? = some p := by rw [ep]; exact List.getElem?_eq_getElem hk2
      have hpm : p ∈ gs := List.mem_of_getElem? hpk
      have e3 : (gs.map TP.v)[k]? = some p.v := by rw [List.getElem?_map, hpk]; rfl
      rw [e3] at e2
      cases e2
      obtain ⟨hrd, hpl⟩ := hgr.2 p hpm
      have c2 : wr.cell? ⟨b, o + k, none⟩ = some (.slice p.A dims p.c) := by rw [c1, ← hpl]; rfl
      have hsp : Sl wr p.A dims 1 (flts p.xs) := by rw [← hpl]; exact hrd.1
      have HP := Lib.hid (And.intro hpk (And.intro hsp (TP.gr_iff.1 (HH.out.2.2.1 p hpm))))
      subst e1
      clear hgr hk2 ep hpk hpm e3 c1 hrd hpl hsp
      have i0' : (0 : Int) ≤ k := by omega
      have i1' : (k : Int) < n := by omega
      go_wp2
      go_loop [22] (fun i => ∃ j : Nat, j ≤ m ∧ i = .int .i64 j ∧ Hid (∀ j' : Nat, j' < j → U[j']? = some true ∨ (ps.map TP.key)[j']? ≠ some p.key)) (fun i => m - (intOf i).toNat)
      case atStart => exact ⟨0, Nat.zero_le _, rfl, fun j' hj => by omega⟩
      case round =>
        obtain ⟨j, hj, rfl, HJ⟩ := hrel
        by_cases hlj : j < m
        · have hpr := HH.out.2.1.mod HR.out.mod
          obtain ⟨b2, o2, v2, f1, f2, d1⟩ := hpr.1.at1 hlj
          have hj2 : j < ps.length := by rw [HH.out.2.2.2.2.2.2]; exact hlj
          obtain ⟨q, eq⟩ : ∃ q, q = ps[j] := ⟨_, rfl⟩
          have hqj : ps[j]? = some q := by rw [eq]; exact List.getElem?_eq_getElem hj2
          have hqm : q ∈ ps := List.mem_of_getElem? hqj
          have f3 : (ps.map TP.v)[j]? = some q.v := by rw [List.getElem?_map, hqj]; rfl
          rw [f3] at f2
          cases f2
          obtain ⟨hrd, hql⟩ := hpr.2 q hqm
          have d2 : wr.cell? ⟨b2, o2 + j, none⟩ = some (.slice q.A dims q.c) := by rw [d1, ← hql]; rfl
          have hsq : Sl wr q.A dims 1 (flts q.xs) := by rw [← hql]; exact hrd.1
          obtain ⟨u, hu⟩ : ∃ u, U[j]? = some u := ⟨_, List.getElem?_eq_getElem (by rw [HR.out.len]; exact hlj)⟩
          have x0 : wr.cell? ⟨H, j, none⟩ = some (.bool u) := HR.out.blk.at (i := j) (by rw [List.getElem?_map, hu]; rfl)
          have z0 := HR.out.blk.frozen j
          have HQ := Lib.hid (And.intro hqj (And.intro hsq (And.intro (TP.gr_iff.1 (HH.out.2.2.2.1 q hqm)) hu)))
          have hkq : Hid ((ps.map TP.key)[j]? = some q.key) := by show _ = _; rw [List.getElem?_map, hqj]; rfl
          subst f1
          clear hpr hj2 eq hqj hqm f3 d1 hrd hql hsq hu
          have j0' : (0 : Int) ≤ j := by omega
          have j1' : (j : Int) < m := by omega
          cases u with
          | true =>
            go_wp2
            go_round
            case rel =>
              refine ⟨j + 1, by omega, by go_num, fun j' hj' => ?_⟩
              rcases Nat.lt_or_ge j' j with h | h
              · exact HJ.out j' h
              · obtain rfl : j' = j := by omega
                exact .inl HQ.out.2.2.2
            case measure => simp [intOf]; omega
          | false =>
            by_cases hkk : p.key = q.key
            · have HK := Lib.hid hkk
              clear hkk
              go_wp2_with (go_at_call 46; refine (same_at p.A q.A dims p.c q.c p.xs q.xs true _ HP.out.2.1 HQ.out.2.1 hd HP.out.2.2 HQ.out.2.2.1 (decide_eq_true HK.out).symm).mono ?_; rintro _ _ ⟨rfl, rfl⟩)
              go_roundw
              case rel => exact ⟨k + 1, U.set j true, by omega, by go_num, HR.out.step (by rw [HHH.out]; exact Nat.le_refl _) HP.out.1 HQ.out.1 HQ.out.2.2.2 HK.out⟩
              case measure => simp [intOf]; omega
            · have HK := Lib.hid hkk
              clear hkk
              go_wp2_with (go_at_call 46; refine (same_at p.A q.A dims p.c q.c p.xs q.xs false _ HP.out.2.1 HQ.out.2.1 hd HP.out.2.2 HQ.out.2.2.1 (decide_eq_false HK.out).symm).mono ?_; rintro _ _ ⟨rfl, rfl⟩)
              go_round
              case rel =>
                refine ⟨j + 1, by omega, by go_num, fun j' hj' => ?_⟩
                rcases Nat.lt_or_ge j' j with h | h
                · exact HJ.out j' h
                · obtain rfl : j' = j := by omega
                  refine .inr fun e => ?_
                  rw [hkq.out] at e
                  injection e with e
                  exact HK.out e.symm
              case measure => simp [intOf]; omega
        · obtain rfl : j = m := by omega
          exact (cu_left (U := U) (ks := ps.map TP.key) (gs := gs.map TP.key) (k := k) (κ := p.key) (by rw [List.length_map, HR.out.len, HH.out.2.2.2.2.2.2]) (HR.out.cnt _) (by rw [List.getElem?_map, HP.out.1]; rfl) (HH.out.2.2.2.2.1 _) (fun j' hj' => HJ.out j' (by rw [List.length_map, HH.out.2.2.2.2.2.2] at hj'; exact hj'))).elim
    · obtain rfl : k = n := by omega
      go_wp2
      go_ret
      exact ⟨rfl, HR.out.mod⟩
end Go.Proofs.YtpamoleocjdjiaaDoor

namespace Lox
open Go Go.RowKit
set_option linter.unusedVariables false

theorem tiny_is : Is 4472074429978902528 (1 / 1073741824) := by
  refine ⟨⟨false, 4503599627370496, -82, by decide +kernel⟩, ?_⟩
  have e : FloatKind.f64.decode 4472074429978902528 = .number false 4503599627370496 (-82) := by decide +kernel
  unfold vl
  rw [e]
  show sg false * (((4503599627370496 : Nat) : Rat) * p2 (-82)) = _
  have h1 : p2 (-82) = 1 / 4835703278458516698824704 := by decide +kernel
  have h2 : (((4503599627370496 : Nat) : Rat)) = 4503599627370496 := rfl
  have h3 : sg false = 1 := rfl
  rw [h1, h2, h3]
  grind

theorem p2_53 : p2 (-53) = 1 / 9007199254740992 := by decide +kernel
theorem p2_1075_le : p2 (-1075) ≤ 1 / 1099511627776 := by
  have h := p2_le (i := -1075) (j := -40) (by decide)
  have e : p2 (-40) = 1 / 1099511627776 := by decide +kernel
  rw [← e]; exact h

theorem big_p2 {x : Rat} (h : x ≤ 100000) : x < p2 1000 := by
  have h1 := p2_le (i := 20) (j := 1000) (by decide)
  have e : p2 20 = 1048576 := by decide +kernel
  rw [e] at h1
  grind

/-- Two roots of one number differ by less than the bound, by words. -/
theorem near_words {t r : Nat} {s : Int} (ht : Dst t s) (hr : Dst r s) (hs : s ≤ 33554432) (h0 : 0 ≤ s) : ∃ d, Ieee.double.sub t r = some d ∧ (FloatKind.f64.format.order (d % 9223372036854775808) 4472074429978902528 == some .lt) = true := by
  have n1 := dst_near ht hr hs h0
  have n2 := dst_near hr ht hs h0
  have habs : (vl t - vl r).abs ≤ 1 / 17179869184 := abs_le_iff.2 (by constructor <;> grind)
  obtain ⟨d, hd, fd, hv, _⟩ := sub_ok ht.1 hr.1 (big_p2 (by grind))
  refine ⟨d, hd, ?_⟩
  obtain ⟨f, e, _⟩ := fin_mag fd
  rw [or_lt f tiny_is.1, tiny_is.2, e]
  refine decide_eq_true ?_
  have h1 := p2_1075_le
  rw [p2_53] at hv
  have h2 := abs_le_iff.1 habs
  have h3 := abs_le_iff.1 hv
  have h4 : (vl t - vl r).abs * (1 / 9007199254740992) ≤ 1 / 17179869184 := by
    have hn : 0 ≤ (vl t - vl r).abs := Rat.abs_nonneg
    grind
  have h5 : (vl d).abs ≤ 3 / 17179869184 := abs_le_iff.2 (by constructor <;> grind)
  grind

/-- The root of a number that is no greater is not above, but for the bound. -/
theorem under_words {t r : Nat} {s' s : Int} (ht : Dst t s') (hr : Dst r s) (hle : s' ≤ s) (hs : s ≤ 33554432) (h0 : 0 ≤ s') : ∃ u, Ieee.double.add r 4472074429978902528 = some u ∧ (FloatKind.f64.format.order t u == some .lt) = true := by
  have hb := dst_big hr hs (by omega)
  have hn := hr.2.1
  have hsum : vl r + vl 4472074429978902528 = vl r + 1 / 1073741824 := by rw [tiny_is.2]
  have habs : (vl r + vl 4472074429978902528).abs = vl r + 1 / 1073741824 := by rw [hsum]; exact Rat.abs_of_nonneg (by grind)
  obtain ⟨u, hu, fu, hv, _⟩ := add_ok hr.1 tiny_is.1 (by rw [habs]; exact big_p2 (by grind))
  refine ⟨u, hu, ?_⟩
  rw [or_lt ht.1 fu]
  refine decide_eq_true ?_
  have h1 := p2_1075_le
  rw [p2_53, habs, hsum] at hv
  have h3 := abs_le_iff.1 hv
  have ht2 : vl t ≤ vl r + 1 / 17179869184 := by
    rcases (show s' < s ∨ s' = s by omega) with h | h
    · have := dst_lt ht hr hs h0 h
      grind
    · subst h
      have := dst_near ht hr hs h0
      grind
  grind
end Lox
namespace Go.Proofs.YtpamoleocjdjiaaDoor
open Go.RowKit Lox
set_option linter.unusedVariables false
attribute [local go_sem] run_store_flt run_store_fn undef

set_option maxHeartbeats 2000000 in
theorem samepts_at (A I : Option Addr) (n c ci dims : Nat) (gs ps : List TP) (w : World) (hg : PRows w A n gs dims) (hp : PRows w I n ps dims) (gg : ∀ p ∈ gs, p.Gr) (gp : ∀ p ∈ ps, p.Gr) (hn : n ≤ 2147483647) (hd : dims ≤ 9223372036854775807) (hc : ∀ κ, (gs.map TP.key).count κ ≤ (ps.map TP.key).count κ) :
    Calls Tryd.prog 10 #[.slice A n c, .slice I n ci] w fun e w' => e = .returned (.bool true) ∧ Mod (fun _ => False) w w' := by
  have HM := Lib.hid (fun (W : World) (hm : Mod (fun _ => False) w W) => among_at A I n c n ci dims gs ps W (hg.mod hm) (hp.mod hm) gg gp ⟨hn, hn⟩ hd hc)
  clear hg hp gg gp hc
  go_enter Tryd.func10, Tryd.ntmps10
  go_wp2_with (go_at_call 29; refine (HM.out _ (Mod.refl _ _)).mono ?_; rintro _ w2 ⟨rfl, hm⟩; have H2 := Lib.hid hm; clear hm)
  go_ret
  exact ⟨rfl, H2.out⟩
end Go.Proofs.YtpamoleocjdjiaaDoor
