/- The walks of the tree's Do and its node's do, with the thin package's operation. Conditions: as each says. -/
import Derived.Test.YtncpdjlladlalaaTkOp
import Derived.Deep.RegionHeld3
import Derived.Deep.DrawnRows
namespace Go.Proofs.Ytncpdjlladlalaa
open Go.RowKit Lox
set_option linter.unusedVariables false
attribute [local go_sem] run_store_flt run_store_fn
attribute [local go_sem ↓] Go.wp_at_zero Go.wp_at_succ

/-- What a list comes to that is stopped at the stop-th (never, if stop is below 1), and whether it is. -/
def cut (stop : Int) (l : List (List Nat × Int)) : List (List Nat × Int) := if 0 < stop ∧ stop ≤ l.length then l.take stop.toNat else l
def stopped (stop : Int) (l : List (List Nat × Int)) : Bool := decide (0 < stop ∧ stop ≤ l.length)

theorem cut_append_stopped {stop : Int} {a b : List (List Nat × Int)} (h : stopped stop a = true) : cut stop (a ++ b) = cut stop a ∧ stopped stop (a ++ b) = true := by
  unfold stopped cut at *
  have h := of_decide_eq_true h
  rw [if_pos h, if_pos (by rw [List.length_append]; omega)]
  refine ⟨?_, decide_eq_true (by rw [List.length_append]; omega)⟩
  rw [List.take_append_of_le_length (by omega)]

theorem cut_of_not {stop : Int} {a : List (List Nat × Int)} (h : stopped stop a = false) : cut stop a = a := by
  unfold stopped cut at *
  rw [if_neg (of_decide_eq_false h)]

/-- The operation has been told these. -/
def Heard (H : Nat) (wB w : World) (l : List (List Nat × Int)) : Prop := DW H wB w (l.map (·.1)) (l.map (·.2))

def DoTold (H : Nat) (wB : World) (stop : Int) (l : List (List Nat × Int)) (e : Ending) (w' : World) : Prop :=
  e = .returned (.bool (stopped stop l)) ∧ Heard H wB w' (cut stop l)

theorem Heard.blk {H : Nat} {wB w : World} {l : List (List Nat × Int)} (h : Heard H wB w l) {b : Nat} {T : TypeId} {xs : List Value} (hb : Blk wB b T xs) (hge : H + 3 ≤ b) : Blk w b T xs :=
  hb.mod h.mod (by omega)

theorem Heard.sl {H Bt : Nat} {wB w : World} {l : List (List Nat × Int)} (h : Heard H wB w l) {A : Option Addr} {m : Nat} {xs : List Value} (hs : Sl wB A m 1 xs) (hA : ∀ b o, A = some ⟨b, o, none⟩ → Bt ≤ b) (hge : H + 3 ≤ Bt) : Sl w A m 1 xs :=
  sl_keep2 hs fun b o e hb => h.mod.block b hb (by have := hA b o e; omega)

theorem BT.In.some {B : Nat} {w : World} {t : BT} {v : Value} (h : t.In B w v) (hn : t ≠ .nil) : ∃ g, v = .pointer (some ⟨g, 0, none⟩) := by
  cases t with
  | nil => exact absurd rfl hn
  | node g A m c xs r l rt => exact ⟨_, h.1⟩

theorem Heard.drew {H : Nat} {wB w : World} {l : List (List Nat × Int)} (h : Heard H wB w l) : Heard H wB w.drew l := ⟨h.mod.drew, h.low, h.rows⟩

theorem stopped_nil (stop : Int) : stopped stop [] = false := by
  unfold stopped
  refine decide_eq_false ?_
  rintro ⟨h1, h2⟩
  simp at h2
  omega

theorem stopped_one {stop : Int} {l : List (List Nat × Int)} (h : stopped stop l = false) (x : List Nat × Int) : stopped stop (l ++ [x]) = ((l.length : Int) + 1 == stop) := by
  unfold stopped at *
  have h := of_decide_eq_false h
  rw [List.length_append]
  by_cases he : (l.length : Int) + 1 = stop
  · rw [decide_eq_true (by simp only [List.length_singleton]; omega)]; simp [he]
  · rw [decide_eq_false (by simp only [List.length_singleton]; omega)]; simp [he]

theorem cut_one {stop : Int} {l : List (List Nat × Int)} (h : stopped stop l = false) (x : List Nat × Int) : cut stop (l ++ [x]) = l ++ [x] := by
  unfold stopped at h
  have h := of_decide_eq_false h
  unfold cut
  split
  · rename_i h2
    rw [List.length_append] at h2
    simp only [List.length_singleton] at h2
    exact List.take_of_length_le (by rw [List.length_append]; simp only [List.length_singleton]; omega)
  · rfl

theorem heard_one {H : Nat} {wB w : World} {l : List (List Nat × Int)} {xs : List Nat} {D : Int} (h : DW H wB w (l.map (·.1) ++ [xs]) (l.map (·.2) ++ [D])) : Heard H wB w (l ++ [(xs, D)]) := by
  unfold Heard
  rw [List.map_append, List.map_append]
  exact h

set_option maxHeartbeats 4000000 in
theorem do_at (H Bt : Nat) (wB : World) (stop : Int) (hst : Blk wB H 3 [.int .i64 stop]) (hBt : H + 3 ≤ Bt) (t : BT) :
    ∀ (d : Nat) (D : Int) (v : Value) (w : World) (l : List (List Nat × Int)), t ≠ .nil → D = d → t.In Bt wB v → Heard H wB w l → stopped stop l = false → l.length + (t.visit d).length ≤ 2147483647 → d + (t.visit d).length ≤ 2147483647 →
      Calls Try.prog 59 #[v, .func (Fn.func 38) #[] #[.pointer (some ⟨H + 1, 0, none⟩), .pointer (some ⟨H + 2, 0, none⟩), .pointer (some ⟨H, 0, none⟩)], .int .i64 D] w (DoTold H wB stop (l ++ t.visit d)) := by
  induction t with
  | nil => intro d D v w l h; exact absurd rfl h
  | node g A m c xs r tl tr ihl ihr =>
    intro d D v w l _ hD hv hw hs hlen hdep
    subst hD
    obtain ⟨rfl, hg, hm, hS, hA, lv, rv, bq, hb, hl, hr⟩ := hv
    obtain ⟨ql, rfl⟩ := hl.ptr
    obtain ⟨qr, rfl⟩ := hr.ptr
    have IHL := Lib.hid ihl
    have IHR := Lib.hid ihr
    clear ihl ihr
    have hHg : H + 3 ≤ g := by omega
    have hN := hw.blk hb hHg
    have c0 := hN.at (i := 0) rfl
    have c2 := hN.at (i := 2) rfl
    have HW : Hid (Heard H wB w l ∧ stopped stop l = false) := ⟨hw, hs⟩
    have HN : Hid (Blk wB g 128 [.iface 71 (.slice A m c), .int .i64 r, .pointer ql, .pointer qr, .pointer bq] ∧ Sl wB A m 1 (flts xs) ∧ (∀ b o, A = some ⟨b, o, none⟩ → Bt ≤ b) ∧ Blk wB H 3 [.int .i64 stop]) := ⟨hb, hS, hA, hst⟩
    simp only [BT.visit, List.length_append, List.length_cons] at hlen hdep
    have hd : d ≤ 2147483647 := by omega
    have HVL := Lib.hid hl
    have HVR := Lib.hid hr
    have HLN : Hid (l.length + ((tl.visit (d + 1)).length + ((tr.visit (d + 1)).length + 1)) ≤ 2147483647 ∧ d + ((tl.visit (d + 1)).length + ((tr.visit (d + 1)).length + 1)) ≤ 2147483647) := ⟨hlen, hdep⟩
    clear hN hw hs hb hS hA hl hr hlen hdep hst
    go_enter Try.func59, Try.ntmps59
    go_upto_if 11 with fail
    go_cut [6] from 11 to 20 (fun b wx => b = .bool false ∧ Heard H wB wx (l ++ tl.visit (d + 1)) ∧ stopped stop (l ++ tl.visit (d + 1)) = false)
    case first =>
      by_cases hnil : tl = .nil
      · subst hnil
        obtain rfl : ql = none := by have := HVL.out; simpa [BT.In] using this
        go_wp2_with fail
        go_meet
        exact ⟨rfl, by simpa [BT.visit] using HW.out.1, by simpa [BT.visit] using HW.out.2⟩
      · obtain ⟨g1, e1⟩ := HVL.out.some hnil
        cases e1
        cases hsb : stopped stop (l ++ tl.visit (d + 1)) with
        | true =>
          go_wp2_with (go_at_call 59; refine (IHL.out (d + 1) _ _ w l hnil (by omega) HVL.out HW.out.1 HW.out.2 (by have := HLN.out; omega) (by have := HLN.out; omega)).mono ?_; rintro _ w1 ⟨e1, hh⟩; rw [hsb] at e1; subst e1)
          go_ret
          have hc := cut_append_stopped (b := (xs, (d : Int)) :: tr.visit (d + 1)) hsb
          exact ⟨by rw [BT.visit, ← List.append_assoc, hc.2]; rfl, by rw [BT.visit, ← List.append_assoc, hc.1]; exact hh⟩
        | false =>
          go_wp2_with (go_at_call 59; refine (IHL.out (d + 1) _ _ w l hnil (by omega) HVL.out HW.out.1 HW.out.2 (by have := HLN.out; omega) (by have := HLN.out; omega)).mono ?_; rintro _ w1 ⟨e1, hh⟩; rw [hsb] at e1; subst e1)
          go_meet
          exact ⟨rfl, by rw [cut_of_not hsb] at hh; exact hh, hsb⟩
    case rest =>
      obtain ⟨rfl, hh, hsb⟩ := hcut
      obtain ⟨l1, el1⟩ : ∃ l1, l1 = l ++ tl.visit (d + 1) := ⟨_, rfl⟩
      rw [← el1] at hh hsb
      have hlist : l ++ (BT.node g A m c xs r tl tr).visit d = (l1 ++ [(xs, (d : Int))]) ++ tr.visit (d + 1) := by
        rw [BT.visit, el1]; simp
      have hl1 : l1.length + ((tr.visit (d + 1)).length + 1) ≤ 2147483647 := by rw [el1, List.length_append]; have := HLN.out; omega
      have d0 := (hh.blk HN.out.1 hHg).at (i := 0) rfl
      have d4 := (hh.blk HN.out.1 hHg).at (i := 4) rfl
      have HLI := Lib.hid hlist
      have HH : Hid (Heard H wB wc l1 ∧ stopped stop l1 = false) := ⟨hh, hsb⟩
      have HL1 := Lib.hid hl1
      clear hh el1 hlist c0 c2 hl1
      cases hs2 : stopped stop (l1 ++ [(xs, (d : Int))]) with
      | true =>
        go_wp2_with fail
        go_region_held3 (fun w' => w'.cell? ⟨g, 0, none⟩ = some (.iface 71 (.slice A m c)) ∧ w'.cell? ⟨g, 4, none⟩ = some (.pointer bq)) (first | go_keep | exact ⟨(hH2.blk HN.out.1 hHg).at (i := 0) rfl, (hH2.blk HN.out.1 hHg).at (i := 4) rfl⟩) ((go_at_call 38; refine (op_at H wB _ _ _ stop d bq A m c xs HH.out.1.drew HN.out.2.2.2 ((HH.out.1.sl HN.out.2.1 HN.out.2.2.1 hBt).drew) hm.1 hm.2 (by rw [List.length_map]; have := HL1.out; omega) (by rw [List.length_map]; have := HL1.out; omega)).mono ?_; rintro _ w2 ⟨e2, hD2⟩; rw [List.length_map, ← stopped_one HH.out.2 (xs, (d : Int)), hs2] at e2; subst e2; have hH2 := heard_one hD2))
        go_wp2_with fail
        go_ret
        have hc := cut_append_stopped (b := tr.visit (d + 1)) hs2
        exact ⟨by rw [HLI.out, hc.2]; rfl, by rw [HLI.out, hc.1, cut_one HH.out.2]; exact hH2⟩
      | false =>
        by_cases hnil : tr = .nil
        · subst hnil
          obtain rfl : qr = none := by have := HVR.out; simpa [BT.In] using this
          go_wp2_with fail
          go_region_held3 (fun w' => w'.cell? ⟨g, 0, none⟩ = some (.iface 71 (.slice A m c)) ∧ w'.cell? ⟨g, 4, none⟩ = some (.pointer bq)) (first | go_keep | exact ⟨(hH2.blk HN.out.1 hHg).at (i := 0) rfl, (hH2.blk HN.out.1 hHg).at (i := 4) rfl⟩) ((go_at_call 38; refine (op_at H wB _ _ _ stop d bq A m c xs HH.out.1.drew HN.out.2.2.2 ((HH.out.1.sl HN.out.2.1 HN.out.2.2.1 hBt).drew) hm.1 hm.2 (by rw [List.length_map]; have := HL1.out; omega) (by rw [List.length_map]; have := HL1.out; omega)).mono ?_; rintro _ w2 ⟨e2, hD2⟩; rw [List.length_map, ← stopped_one HH.out.2 (xs, (d : Int)), hs2] at e2; subst e2; have hH2 := heard_one hD2; have d3 := (hH2.blk HN.out.1 hHg).at (i := 3) rfl))
          go_wp2_with fail
          go_ret
          have e : l ++ (BT.node g A m c xs r tl .nil).visit d = l1 ++ [(xs, (d : Int))] := by rw [HLI.out, BT.visit]; simp
          exact ⟨by rw [e, hs2]; rfl, by rw [e, cut_of_not hs2]; exact hH2⟩
        · obtain ⟨g1, e1⟩ := HVR.out.some hnil
          cases e1
          go_wp2_with fail
          go_region_held3 (fun w' => w'.cell? ⟨g, 0, none⟩ = some (.iface 71 (.slice A m c)) ∧ w'.cell? ⟨g, 4, none⟩ = some (.pointer bq)) (first | go_keep | exact ⟨(hH2.blk HN.out.1 hHg).at (i := 0) rfl, (hH2.blk HN.out.1 hHg).at (i := 4) rfl⟩) ((go_at_call 38; refine (op_at H wB _ _ _ stop d bq A m c xs HH.out.1.drew HN.out.2.2.2 ((HH.out.1.sl HN.out.2.1 HN.out.2.2.1 hBt).drew) hm.1 hm.2 (by rw [List.length_map]; have := HL1.out; omega) (by rw [List.length_map]; have := HL1.out; omega)).mono ?_; rintro _ w2 ⟨e2, hD2⟩; rw [List.length_map, ← stopped_one HH.out.2 (xs, (d : Int)), hs2] at e2; subst e2; have hH2 := heard_one hD2; have d3 := (hH2.blk HN.out.1 hHg).at (i := 3) rfl))
          go_wp2_with (go_at_call 59; refine (IHR.out (d + 1) _ _ w2 (l1 ++ [(xs, (d : Int))]) hnil (by omega) HVR.out hH2 hs2 (by have := HL1.out; rw [List.length_append, List.length_singleton]; omega) (by have := HLN.out; omega)).mono ?_; rintro _ w4 ⟨rfl, hD4⟩)
          go_ret
          exact ⟨by rw [HLI.out, List.append_assoc]; rfl, by rw [HLI.out]; exact hD4⟩

set_option maxHeartbeats 1000000 in
theorem tree_do (H Bt : Nat) (wB w : World) (stop : Int) (hst : Blk wB H 3 [.int .i64 stop]) (hBt : H + 3 ≤ Bt) (t : BT) (v : Value) (tb : Nat) (n : Int) (htb : Blk w tb 110 [v, .int .i64 n]) (hn : t ≠ .nil) (hv : t.In Bt wB v) (hw : Heard H wB w []) (hlen : (t.visit 0).length ≤ 2147483647) :
    Calls Try.prog 37 #[.pointer (some ⟨tb, 0, none⟩), .func (Fn.func 38) #[] #[.pointer (some ⟨H + 1, 0, none⟩), .pointer (some ⟨H + 2, 0, none⟩), .pointer (some ⟨H, 0, none⟩)]] w (DoTold H wB stop (t.visit 0)) := by
  have hv' := hv
  obtain ⟨g, rfl⟩ := hv.some hn
  have c0 := htb.at (i := 0) rfl
  have HV := Lib.hid hv'
  clear hv hv'
  go_enter Try.func37, Try.ntmps37
  go_wp2_with (go_at_call 59; refine (do_at H Bt wB stop hst hBt t 0 0 _ w [] hn rfl HV.out hw (stopped_nil stop) (by simpa using hlen) (by simpa using hlen)).mono ?_; rintro _ w4 ⟨rfl, hD4⟩)
  go_ret
  exact ⟨rfl, hD4⟩
end Go.Proofs.Ytncpdjlladlalaa
