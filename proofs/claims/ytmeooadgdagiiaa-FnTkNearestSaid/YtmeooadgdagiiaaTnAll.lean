/- The walk of tAll. Conditions: as it says. -/
import Derived.Test.YtmeooadgdagiiaaTbSome
import Derived.Test.YtmeooadgdagiiaaTbKpts
namespace Lox
open Go Go.RowKit
set_option linter.unusedVariables false

theorem run_append_none {P : Program} (w : World) (t ty e : TypeId) (i : TypeInfo) (base size n c : Nat) (v : Value) (xs : List Value) (ht : P.underlying t = some (.slice e)) (hi : P.info? e = some i) (hown : w.ownsRow base e size v n xs) :
    (Builtin.append_ #[t, t] ty #[v, .slice none 0 c]).run P w = .ok v w := by
  rcases hown.2 with ⟨rfl, h0⟩ | ⟨g, cap, cur, rfl, hB, hg, hc, hcm, hsz, htk⟩
  · simp [Builtin.append_, run_underlying ht, Go.sizeOf, typeInfo, hi, Builtin.lenOf, Builtin.firstCells]
  · have hst : (storeCells ((⟨g, 0, none⟩ : Addr).add (n * i.size)) []).run P w = .ok () w := rfl
    simp [Builtin.append_, run_underlying ht, Go.sizeOf, typeInfo, hi, Builtin.lenOf, Builtin.firstCells, hc, hst]

theorem wpList_append_opt {P : Program} (w : World) {ops : Array Oper} {rest : List Oper} {o : Oper} {a : Act} {Q : Exit → Act → World → Prop} (hgd : o.guard = none) (s x : Operand) (t : TypeId)
    (ho : o.op = .call { callee := .builtin .append, args := #[s, x], argTypes := #[t, t] })
    (base : Nat) (e : TypeId) (i : TypeInfo) (z : Value) (bytes : Nat) (ht : P.underlying t = some (.slice e)) (hi : P.info? e = some i) (hz : i.zero = some z)
    (hsize : i.size = 1) (hby : i.bytes = bytes) (hzs : z.cells.size = 1)
    (v : Value) (n : Nat) (xs : List Value) (hs : a.eval s = v) (hown : w.ownsRow base e 1 v n xs)
    (X : Option Addr) (m c : Nat) (news : List Value) (hx : a.eval x = .slice X m c) (hnews : Sl w X m 1 news) (h1 : ∀ u ∈ news, u.oneCell' = true)
    (h63 : n + m ≤ maxLen) (hbytes : (n + m) * bytes ≤ 140737488355328) (hbase : base ≤ w.heap.size)
    (h : ∀ v' w', w'.ownsRow base e 1 v' (n + m) (xs ++ news) → w.grownBy w' v.ownBlock → wpList P ops Q rest (a.put o.dst v') w') : wpList P ops Q (o :: rest) a w := by
  cases X with
  | none =>
    obtain rfl : m = 0 := by
      rcases Nat.eq_zero_or_pos m with h0 | h0
      · exact h0
      · obtain ⟨_, _, h, _⟩ := hnews.2 h0
        cases h
    obtain rfl : news = [] := List.length_eq_zero_iff.1 (by have := hnews.1; omega)
    refine wpList_plain hgd fun K hK => ?_
    have hr := run_append_none (P := P) w t o.type e i base 1 n c v xs ht hi hown
    unfold Oper.wp execOp
    simp only [ho, resolve, invoke, builtin, Sem.run_bind, Sem.run_pure, Result.andThen_ok, List.map_toArray, List.map_cons, List.map_nil, hs, hx, hr]
    exact hK _ _ (h v w (by rw [Nat.add_zero, List.append_nil]; exact hown) ⟨rfl, rfl, rfl, Nat.le_refl _, fun _ _ _ => rfl⟩)
  | some ad =>
    exact wpList_append_own w hgd s x t ho base e i z 1 bytes ht hi hz hsize hby hzs (by decide) v n xs hs hown ad m c news hx hnews.1 (fun j u hu => by
      obtain ⟨b, o, e, hc⟩ := hnews.2 (by have := hnews.1; have := (List.getElem?_eq_some_iff.1 hu).1; omega)
      cases e
      rw [addr_lit]
      exact hc j u hu) h1 h63 hbytes hbase fun v' w' h2 h3 _ => h v' w' h2 h3
end Lox

namespace Go.Proofs.Ytmeooadgdagiiaa
open Go.RowKit Lox
set_option linter.unusedVariables false
attribute [local go_sem] run_store_flt run_store_fn

theorem info_floats : (Try.prog.info? 26).map (fun i => (i.zero, i.size, i.bytes)) = some (some (.slice none 0 0), 1, 24) := by kernel_rfl

theorem oneCell_rows {ps : List TP} : ∀ u ∈ ps.map TP.v, u.oneCell' = true := by
  intro u hu
  obtain ⟨p, _, rfl⟩ := List.mem_map.1 hu
  rfl

/-- What tAll tells. -/
def AllTold (ps qs : List TP) (n : Nat) (w : World) (e : Ending) (w' : World) : Prop :=
  ∃ (A : Option Addr) (c : Nat), e = .returned (.slice A n c) ∧ Sl w' A n 1 ((ps ++ qs).map TP.v) ∧ Mod (fun _ => False) w w' ∧ n ≤ 9223372036854775807

theorem own_empty (w : World) (T : TypeId) : (w.alloc (.cells #[] T)).ownsRow w.heap.size T 1 (.slice (some ⟨w.heap.size, 0, none⟩) 0 0) 0 [] :=
  ⟨rfl, .inr ⟨w.heap.size, 0, #[], rfl, Nat.le_refl _, (Blk.new' w #[] T), Nat.le_refl _, by decide, rfl, rfl⟩⟩

theorem own_told {w w' : World} {ps qs : List TP} {v : Value} {n : Nat} (h : w'.ownsRow w.heap.size 26 1 v n ((ps ++ qs).map TP.v)) (hm : Mod (fun _ => False) w w') : AllTold ps qs n w (.returned v) w' := by
  rcases h.2 with ⟨rfl, h0⟩ | ⟨g, cap, cur, rfl, hB, hg, hc, hcm, hsz, ht⟩
  · subst h0
    exact ⟨none, 0, rfl, ⟨by have := h.1; simpa using this, fun h => by omega⟩, hm, by omega⟩
  · refine ⟨_, _, rfl, ⟨h.1, fun _ => ⟨g, 0, rfl, fun j u hu => ?_⟩⟩, hm, by unfold maxLen at hcm; omega⟩
    have := h.cells (g := g) rfl j u hu
    rw [addr_lit] at this
    exact this

theorem all_m1 {w w1 : World} {o : Obj} {n c : Nat} (h : (w.alloc o).grownBy w1 (Value.slice (some ⟨w.heap.size, 0, none⟩) n c).ownBlock) : Mod (fun _ => False) w w1 :=
  ((Mod.refl _ _).alloc _).grown h (fun k e hk => by
    have e : some w.heap.size = some k := e
    injection e with e
    omega)

set_option maxHeartbeats 2000000 in
theorem all_at (x y : RR) (n m : Nat) (w : World) (hx : x.Ok w) (hy : y.Ok w) (hn : x.ps.length = n) (hm : y.ps.length = m) (hb : n ≤ 2147483647 ∧ m ≤ 2147483647) :
    Calls Try.prog 21 #[.slice x.A n x.c, .slice y.A m y.c] w (AllTold x.ps y.ps (n + m) w) := by
  obtain ⟨i0, hi0, hz0, hz1, hz2⟩ := info_parts info_floats
  have HI := Lib.hid (And.intro hi0 (And.intro hz0 (And.intro hz1 hz2)))
  clear hi0 hz0 hz1 hz2
  have h1 := hx.1
  have h2 := hy.1
  rw [hn] at h1
  rw [hm] at h2
  have HH := Lib.hid (And.intro h1 h2)
  clear hx hy h1 h2 hn hm
  obtain ⟨O, c, ps⟩ := x
  obtain ⟨I, ci, qs⟩ := y
  have tok1 : True := trivial
  go_enter Try.func21, Try.ntmps21
  go_wp2_with (at_builtin; first
    | (have _t := tok1; clear _t tok1; refine wpList_append_opt _ rfl _ _ _ rfl w.heap.size 26 i0 (.slice none 0 0) 24 Try.underlying22 HI.out.1 HI.out.2.1 HI.out.2.2.1 HI.out.2.2.2 rfl (.slice (some ⟨w.heap.size, 0, none⟩) 0 0) 0 [] rfl (own_empty w _) O n c (ps.map TP.v) rfl (HH.out.1.alloc _) oneCell_rows (by unfold maxLen; omega) (by omega) (by rw [World.size_alloc]; omega) ?_; intro v1 w1 hown1 hgrow1; have hm1 : Mod (fun _ => False) w w1 := all_m1 hgrow1; have H1 := Lib.hid (And.intro hown1 (And.intro hgrow1 hm1)); clear hown1 hgrow1 hm1)
    | (refine wpList_append_opt _ rfl _ _ _ rfl w.heap.size 26 i0 (.slice none 0 0) 24 Try.underlying22 HI.out.1 HI.out.2.1 HI.out.2.2.1 HI.out.2.2.2 rfl v1 (0 + n) ([] ++ ps.map TP.v) rfl H1.out.1 I m ci (qs.map TP.v) rfl (HH.out.2.mod H1.out.2.2) oneCell_rows (by unfold maxLen; omega) (by omega) (by have := H1.out.2.2.size; omega) ?_; intro v2 w2 hown2 hgrow2; have H2 := Lib.hid (And.intro hown2 hgrow2); clear hown2 hgrow2))
  go_ret
  have hm2 : Mod (fun _ => False) w w2 := H1.out.2.2.grown H2.out.2 (fun k e hk => by have := (own_block H1.out.1 e).1; omega)
  have h := H2.out.1
  rw [List.nil_append, Nat.zero_add, ← List.map_append] at h
  exact own_told h hm2
end Go.Proofs.Ytmeooadgdagiiaa
