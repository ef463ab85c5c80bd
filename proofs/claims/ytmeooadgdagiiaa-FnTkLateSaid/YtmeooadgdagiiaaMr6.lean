/- Steps of a proof, one behind another: The walk of the copy of the points that a k-d tree is built of. The walk of tAll. k-d trees as New and Insert make them, in memory. Conditions: as each theorem says. -/
import Derived.Test.YtmeooadgdagiiaaMr5
import Derived.Deep.AppendLies

namespace Go.Proofs.Ytmeooadgdagiiaa
open Go.RowKit Lox
set_option linter.unusedVariables false
attribute [local go_sem] run_store_flt run_store_fn

theorem info_kpoint : (Try.prog.info? 73).map (fun i => (i.zero, i.size, i.bytes)) = some (some (.slice none 0 0), 1, 24) := by kernel_rfl

/-- Points that came in, as a row of rows. -/
def PRows (w : World) (O : Option Addr) (n : Nat) (ps : List TP) (dims : Nat) : Prop := Sl w O n 1 (ps.map TP.v) ∧ (∀ p ∈ ps, p.Rd w ∧ p.xs.length = dims)

theorem PRows.mod {w w' : World} {O : Option Addr} {n dims : Nat} {ps : List TP} (h : PRows w O n ps dims) (hm : Mod (fun _ => False) w w') : PRows w' O n ps dims := ⟨h.1.mod hm, fun p hp => ⟨(h.2 p hp).1.mod hm, (h.2 p hp).2⟩⟩

theorem PRows.len {w : World} {O : Option Addr} {n dims : Nat} {ps : List TP} (h : PRows w O n ps dims) : ps.length = n := by have := h.1.1; simpa using this

/-- Points that have been copied so far, in a row v of their own. -/
structure KP (w w' : World) (dims : Nat) (v : Value) (ps qs : List TP) : Prop where
  own : w'.ownsRow w.heap.size 73 1 v qs.length (qs.map TP.v)
  same : qs.map TP.xs = ps.map TP.xs
  ok : ∀ p ∈ qs, p.Ok w' dims ∧ ∀ b o, p.A = some ⟨b, o, none⟩ → w.heap.size ≤ b ∧ v.ownBlock ≠ some b
  mod : Mod (fun _ => False) w w'

theorem KP.step {w w' w1 w3 : World} {dims : Nat} {v : Value} {ps qs : List TP} {p : TP} {A2 : Option Addr} {c2 g cap : Nat} (h : KP w w' dims v ps qs) (hdm : 0 < dims) (hp : p.xs.length = dims) (hm : Mod (fun _ => False) w' w1) (hs : Sl w1 A2 dims 1 (flts p.xs))
    (hA : ∀ b o, A2 = some ⟨b, o, none⟩ → w'.heap.size ≤ b) {o : Obj} (hown : w3.ownsRow w.heap.size 73 1 (.slice (some ⟨g, 0, none⟩) (qs.length + 1) cap) (qs.length + 1) (qs.map TP.v ++ [.slice A2 dims c2]))
    (hgrow : (w1.alloc o).grownBy w3 v.ownBlock) (hat : v.ownBlock = some g ∨ g = w1.heap.size + 1) (hob : ∀ b, v.ownBlock = some b → w.heap.size ≤ b ∧ b < w'.heap.size) :
    KP w w3 dims (.slice (some ⟨g, 0, none⟩) (qs.length + 1) cap) (ps ++ [p]) (qs ++ [⟨A2, c2, p.xs⟩]) := by
  have hs1 := hm.size
  have hs0 := h.mod.size
  have keep : ∀ q : TP, q.Ok w1 dims → (∀ b o, q.A = some ⟨b, o, none⟩ → v.ownBlock ≠ some b) → q.Ok w3 dims := by
    intro q hq hne
    refine ⟨hq.1, hq.2.1, fun h0 => ?_⟩
    obtain ⟨b, o', e, hc⟩ := hq.2.2 h0
    refine ⟨b, o', e, fun j u hu => ?_⟩
    have hcj := hc j u hu
    have hlt := lt_of_cell hcj
    exact (hgrow.cell_far _ (by rw [World.size_alloc]; exact Nat.lt_succ_of_lt hlt) (Ne.symm (hne b o' e))).trans ((World.cell?_alloc_past _ _ _ hlt).trans hcj)
  refine ⟨by rw [List.length_append, List.map_append]; simpa [TP.v, hp] using hown, by simp [h.same], ?_, ?_⟩
  · intro q hq
    rcases List.mem_append.1 hq with hq | hq
    · obtain ⟨k1, k2⟩ := h.ok q hq
      refine ⟨keep q ⟨k1.1, k1.2.mod hm⟩ (fun b o e => (k2 b o e).2), fun b o e => ⟨(k2 b o e).1, fun e2 => ?_⟩⟩
      have e2 : some g = some b := e2
      injection e2 with e2
      subst e2
      have hlt : g < w'.heap.size := (k1.2.far (by omega)) (by rw [k1.1]; exact hdm) g o e
      rcases hat with h1 | h1
      · exact (k2 g o e).2 h1
      · omega
    · rw [List.mem_singleton.1 hq]
      refine ⟨keep _ ⟨hp, by rw [hp]; exact hs⟩ (fun b o e h1 => ?_), fun b o e => ⟨by have := hA b o e; omega, fun e2 => ?_⟩⟩
      · have := hA b o e
        have := (hob b h1).2
        omega
      · have e2 : some g = some b := e2
        injection e2 with e2
        subst e2
        have h2 := hA g o e
        have hlt : g < w1.heap.size := (hs.far (by omega)) hdm g o e
        rcases hat with h1 | h1
        · have := (hob g h1).2; omega
        · omega
  · exact ((h.mod.trans hm).alloc o).grown hgrow (fun k e hk => by have := (hob k e).1; omega)

/-- What kpoints tells. -/
def KpTold (dims n : Nat) (ps : List TP) (w : World) (e : Ending) (w' : World) : Prop :=
  ∃ (X : Option Addr) (c pb : Nat) (qs : List TP), e = .returned (.slice X n c) ∧ qs.length = n ∧ qs.map TP.xs = ps.map TP.xs ∧ n ≤ c ∧ c ≤ 9223372036854775807 ∧ Mod (fun _ => False) w w' ∧ w.heap.size ≤ pb ∧
    (0 < n → X = some ⟨pb, 0, none⟩ ∧ TPs w' pb qs) ∧ ∀ p ∈ qs, p.Okp w' dims pb ∧ ∀ b o, p.A = some ⟨b, o, none⟩ → w.heap.size ≤ b

theorem own_block {w : World} {B e size n : Nat} {v : Value} {xs : List Value} (h : w.ownsRow B e size v n xs) {b : Nat} (hb : v.ownBlock = some b) : B ≤ b ∧ b < w.heap.size := by
  rcases h.2 with ⟨rfl, h0⟩ | ⟨g, cap, cur, e1, hB, hg, hc⟩
  · cases hb
  · subst e1
    have hb : some g = some b := hb
    injection hb with hb
    subst hb
    exact ⟨hB, (Array.getElem?_eq_some_iff.1 hg).1⟩

theorem KP.told {w w' : World} {dims : Nat} {v : Value} {ps qs : List TP} (h : KP w w' dims v ps qs) : KpTold dims ps.length ps w (.returned v) w' := by
  have hl : qs.length = ps.length := by have := congrArg List.length h.same; simpa using this
  have hs := h.mod.size
  rcases h.own.2 with ⟨rfl, h0⟩ | ⟨g, cap, cur, e1, hB, hg, hc, hcm, hsz, ht⟩
  · have : qs = [] := List.length_eq_zero_iff.1 h0
    subst this
    exact ⟨none, 0, w.heap.size, [], by rw [← hl]; rfl, hl, h.same, by rw [← hl]; exact Nat.le_refl _, by omega, h.mod, Nat.le_refl _, fun h => by rw [← hl] at h; exact absurd h (by simp), fun p hp => by cases hp⟩
  · subst e1
    rw [Nat.mul_one] at ht
    refine ⟨_, cap, g, qs, by rw [hl], hl, h.same, by omega, by unfold maxLen at hcm; exact hcm, h.mod, hB, fun _ => ⟨rfl, cur.toList.drop qs.length, ?_⟩, fun p hp => ⟨⟨(h.ok p hp).1, fun b o e e2 => ((h.ok p hp).2 b o e).2 (by rw [e2]; rfl)⟩, fun b o e => ((h.ok p hp).2 b o e).1⟩⟩
    unfold Blk
    rw [← ht, List.take_append_drop]
    exact hg

set_option maxHeartbeats 4000000 in
theorem kpoints_at (O : Option Addr) (n c dims : Nat) (ps : List TP) (w : World) (h : PRows w O n ps dims) (hn : n ≤ 1099511627776) (hdm : 0 < dims ∧ dims ≤ 1099511627776) :
    Calls Try.prog 31 #[.slice O n c] w (KpTold dims n ps w) := by
  obtain ⟨i0, hi0, hz0, hz1, hz2⟩ := info_parts info_kpoint
  have HI := Lib.hid (And.intro hi0 (And.intro hz0 (And.intro hz1 hz2)))
  clear hi0 hz0 hz1 hz2
  have hl := h.len
  have HH := Lib.hid (And.intro h hl)
  clear h hl
  go_enter Try.func31, Try.ntmps31
  go_wp2_with fail
  go_loopw [3, 8] (fun v i w' => ∃ (k : Nat) (qs : List TP), k ≤ n ∧ i = .int .i64 k ∧ Hid (KP w w' dims v (ps.take k) qs ∧ qs.length = k)) (fun _ i _ => n - (intOf i).toNat)
  case atStart => exact ⟨0, [], Nat.zero_le _, rfl, ⟨World.ownsRow_nil _ _ _ _, rfl, fun p hp => (by cases hp), Mod.refl _ _⟩, rfl⟩
  case round =>
    obtain ⟨k, qs, hk, rfl, HR⟩ := hrel
    by_cases hlt : k < n
    · obtain ⟨b, o, v0, e1, e2, c1⟩ := (HH.out.1.mod HR.out.1.mod).1.at1 hlt
      have hk2 : k < ps.length := by rw [HH.out.2]; exact hlt
      obtain ⟨p, ep⟩ : ∃ p, p = ps[k] := ⟨_, rfl⟩
      have hpm : p ∈ ps := by rw [ep]; exact List.getElem_mem hk2
      have hTK : ps.take (k + 1) = ps.take k ++ [p] := by rw [List.take_succ_eq_append_getElem hk2, ep]
      have e3 : (ps.map TP.v)[k]? = some p.v := by rw [ep]; simp [hk2]
      rw [e3] at e2
      cases e2
      obtain ⟨hrd, hpl⟩ := (HH.out.1.mod HR.out.1.mod).2 p hpm
      have c2 : wr.cell? ⟨b, o + k, none⟩ = some (.slice p.A dims p.c) := by rw [c1, ← hpl]; rfl
      have hsl : Sl wr p.A dims 1 (flts p.xs) := by rw [← hpl]; exact hrd.1
      have HS := Lib.hid (And.intro hsl (And.intro hpl (And.intro hTK (fun b hb => own_block HR.out.1.own (b := b) hb))))
      subst e1
      clear ep hpm hTK e3 c1 hrd hpl hsl hk2
      have i0' : (0 : Int) ≤ k := by omega
      have i1' : (k : Int) < n := by omega
      go_wp2_with (first
        | (go_at_call 33; refine (floats_any p.A dims p.c p.xs _ HS.out.1 hdm.2 hdm.1).mono ?_; rintro _ w1 ⟨A2, cc2, rfl, hs2, hm2, hb2⟩; have HW := Lib.hid (And.intro hs2 (And.intro hm2 hb2)); clear hs2 hm2 hb2)
        | (at_builtin; refine wpList_append_lies _ (by rfl) (.tmp 12) (.tmp 15) 67 (by rfl) w.heap.size 73 i0 _ 1 24 Try.underlying67 HI.out.1 HI.out.2.1 HI.out.2.2.1 HI.out.2.2.2 rfl (by omega) u3 qs.length (qs.map TP.v) (by rfl) ((HR.out.1.own.kept HW.out.2.1.grownBy (Decidable.em _)).alloc _) ⟨w1.heap.size, 0, none⟩ 1 1 [.slice A2 dims cc2] (by rfl) (by rfl) (World.news_of_block (cs := #[.slice A2 dims cc2]) (t := 73) (fr := (0, 0)) (heap_alloc_new w1 _)) (by simp [Value.oneCell']) (by omega) (by have := HR.out.2; unfold maxLen; omega) (by have := HR.out.2; omega) (by have := HR.out.1.mod.size; have := HW.out.2.1.size; simp; omega) (w1.heap.size + 1) (by simp) ?_; intro gg cap w3 hown3 hgrow hat hlt3; have HG := Lib.hid (And.intro hown3 (And.intro hgrow hat)); clear hown3 hgrow hat))
      go_roundw
      case rel =>
        refine ⟨k + 1, qs ++ [⟨A2, cc2, p.xs⟩], by omega, by go_num, ?_, by simp [HR.out.2]⟩
        rw [HS.out.2.2.1]
        exact HR.out.1.step hdm.1 HS.out.2.1 HW.out.2.1 HW.out.1 HW.out.2.2 HG.out.1 HG.out.2.1 HG.out.2.2 HS.out.2.2.2
      case measure => simp [intOf]; omega
    · obtain rfl : k = n := by omega
      go_wp2_with fail
      go_ret
      have h1 := HR.out.1
      rw [List.take_of_length_le (by rw [HH.out.2]; exact Nat.le_refl _)] at h1
      have h2 := h1.told
      rw [HH.out.2] at h2
      exact h2
end Go.Proofs.Ytmeooadgdagiiaa

namespace Lox
open Go Go.RowKit
set_option linter.unusedVariables false

theorem run_append_none {P : Program} (w : World) (t ty e : TypeId) (i : TypeInfo) (base size n c : Nat) (v : Value) (xs : List Value) (ht : P.underlying t = some (.slice e)) (hi : P.info? e = some i) (hown : w.ownsRow base e size v n xs) :
    (Builtin.append_ #[t, t] ty #[v, .slice none 0 c]).run P w = .ok v w := by
  rcases hown.2 with ⟨rfl, h0⟩ | ⟨g, cap, cur, rfl, hB, hg, hc, hcm, hsz, htk⟩
  · simp [Builtin.append_, run_underlying ht, Go.sizeOf, typeInfo, hi, Builtin.lenOf, Builtin.firstCells]
  · have hst : (storeCells ((⟨g, 0, none⟩ : Addr).add (n * i.size)) []).run P w = .ok () w := rfl
    simp [Builtin.append_, run_underlying ht, Go.sizeOf, typeInfo, hi, Builtin.lenOf, Builtin.firstCells, hc, hst]

theorem wpList_append_opt {P : Program} (w : World) {ops : Array Oper} {rest : List Oper} {o : Oper} {a : Act} {Q : Exit → Act → World → Prop} (hgd : o.guard = none) (s x : Operand) (t : TypeId)
    (ho : o.op = .call { callee := .builtin .append, args := #[s, x], argTypes := #[t, t] })
    (base : Nat) (e : TypeId) (i : TypeInfo) (z : Value) (bytes : Nat) (ht : P.underlying t = some (.slice e)) (hi : P.info? e = some i) (hz : i.zero = some z)
    (hsize : i.size = 1) (hby : i.bytes = bytes) (hzs : z.cells.size = 1)
    (v : Value) (n : Nat) (xs : List Value) (hs : a.eval s = v) (hown : w.ownsRow base e 1 v n xs)
    (X : Option Addr) (m c : Nat) (news : List Value) (hx : a.eval x = .slice X m c) (hnews : Sl w X m 1 news) (h1 : ∀ u ∈ news, u.oneCell' = true)
    (h63 : n + m ≤ maxLen) (hbytes : (n + m) * bytes ≤ 140737488355328) (hbase : base ≤ w.heap.size)
    (h : ∀ v' w', w'.ownsRow base e 1 v' (n + m) (xs ++ news) → w.grownBy w' v.ownBlock → wpList P ops Q rest (a.put o.dst v') w') : wpList P ops Q (o :: rest) a w := by
  cases X with
  | none =>
    obtain rfl : m = 0 := by
      rcases Nat.eq_zero_or_pos m with h0 | h0
      · exact h0
      · obtain ⟨_, _, h, _⟩ := hnews.2 h0
        cases h
    obtain rfl : news = [] := List.length_eq_zero_iff.1 (by have := hnews.1; omega)
    refine wpList_plain hgd fun K hK => ?_
    have hr := run_append_none (P := P) w t o.type e i base 1 n c v xs ht hi hown
    unfold Oper.wp execOp
    simp only [ho, resolve, invoke, builtin, Sem.run_bind, Sem.run_pure, Result.andThen_ok, List.map_toArray, List.map_cons, List.map_nil, hs, hx, hr]
    exact hK _ _ (h v w (by rw [Nat.add_zero, List.append_nil]; exact hown) ⟨rfl, rfl, rfl, Nat.le_refl _, fun _ _ _ => rfl⟩)
  | some ad =>
    exact wpList_append_own w hgd s x t ho base e i z 1 bytes ht hi hz hsize hby hzs (by decide) v n xs hs hown ad m c news hx hnews.1 (fun j u hu => by
      obtain ⟨b, o, e, hc⟩ := hnews.2 (by have := hnews.1; have := (List.getElem?_eq_some_iff.1 hu).1; omega)
      cases e
      rw [addr_lit]
      exact hc j u hu) h1 h63 hbytes hbase fun v' w' h2 h3 _ => h v' w' h2 h3
end Lox

namespace Go.Proofs.Ytmeooadgdagiiaa
open Go.RowKit Lox
set_option linter.unusedVariables false
attribute [local go_sem] run_store_flt run_store_fn

theorem info_floats : (Try.prog.info? 26).map (fun i => (i.zero, i.size, i.bytes)) = some (some (.slice none 0 0), 1, 24) := by kernel_rfl

theorem oneCell_rows {ps : List TP} : ∀ u ∈ ps.map TP.v, u.oneCell' = true := by
  intro u hu
  obtain ⟨p, _, rfl⟩ := List.mem_map.1 hu
  rfl

/-- What tAll tells. -/
def AllTold (ps qs : List TP) (n : Nat) (w : World) (e : Ending) (w' : World) : Prop :=
  ∃ (A : Option Addr) (c : Nat), e = .returned (.slice A n c) ∧ Sl w' A n 1 ((ps ++ qs).map TP.v) ∧ Mod (fun _ => False) w w' ∧ n ≤ 9223372036854775807

theorem own_empty (w : World) (T : TypeId) : (w.alloc (.cells #[] T)).ownsRow w.heap.size T 1 (.slice (some ⟨w.heap.size, 0, none⟩) 0 0) 0 [] :=
  ⟨rfl, .inr ⟨w.heap.size, 0, #[], rfl, Nat.le_refl _, (Blk.new' w #[] T), Nat.le_refl _, by decide, rfl, rfl⟩⟩

theorem own_told {w w' : World} {ps qs : List TP} {v : Value} {n : Nat} (h : w'.ownsRow w.heap.size 26 1 v n ((ps ++ qs).map TP.v)) (hm : Mod (fun _ => False) w w') : AllTold ps qs n w (.returned v) w' := by
  rcases h.2 with ⟨rfl, h0⟩ | ⟨g, cap, cur, rfl, hB, hg, hc, hcm, hsz, ht⟩
  · subst h0
    exact ⟨none, 0, rfl, ⟨by have := h.1; simpa using this, fun h => by omega⟩, hm, by omega⟩
  · refine ⟨_, _, rfl, ⟨h.1, fun _ => ⟨g, 0, rfl, fun j u hu => ?_⟩⟩, hm, by unfold maxLen at hcm; omega⟩
    have := h.cells (g := g) rfl j u hu
    rw [addr_lit] at this
    exact this

theorem all_m1 {w w1 : World} {o : Obj} {n c : Nat} (h : (w.alloc o).grownBy w1 (Value.slice (some ⟨w.heap.size, 0, none⟩) n c).ownBlock) : Mod (fun _ => False) w w1 :=
  ((Mod.refl _ _).alloc _).grown h (fun k e hk => by
    have e : some w.heap.size = some k := e
    injection e with e
    omega)

set_option maxHeartbeats 2000000 in
theorem all_at (x y : RR) (n m : Nat) (w : World) (hx : x.Ok w) (hy : y.Ok w) (hn : x.ps.length = n) (hm : y.ps.length = m) (hb : n ≤ 2147483647 ∧ m ≤ 2147483647) :
    Calls Try.prog 21 #[.slice x.A n x.c, .slice y.A m y.c] w (AllTold x.ps y.ps (n + m) w) := by
  obtain ⟨i0, hi0, hz0, hz1, hz2⟩ := info_parts info_floats
  have HI := Lib.hid (And.intro hi0 (And.intro hz0 (And.intro hz1 hz2)))
  clear hi0 hz0 hz1 hz2
  have h1 := hx.1
  have h2 := hy.1
  rw [hn] at h1
  rw [hm] at h2
  have HH := Lib.hid (And.intro h1 h2)
  clear hx hy h1 h2 hn hm
  obtain ⟨O, c, ps⟩ := x
  obtain ⟨I, ci, qs⟩ := y
  have tok1 : True := trivial
  go_enter Try.func21, Try.ntmps21
  go_wp2_with (at_builtin; first
    | (have _t := tok1; clear _t tok1; refine wpList_append_opt _ rfl _ _ _ rfl w.heap.size 26 i0 (.slice none 0 0) 24 Try.underlying22 HI.out.1 HI.out.2.1 HI.out.2.2.1 HI.out.2.2.2 rfl (.slice (some ⟨w.heap.size, 0, none⟩) 0 0) 0 [] rfl (own_empty w _) O n c (ps.map TP.v) rfl (HH.out.1.alloc _) oneCell_rows (by unfold maxLen; omega) (by omega) (by rw [World.size_alloc]; omega) ?_; intro v1 w1 hown1 hgrow1; have hm1 : Mod (fun _ => False) w w1 := all_m1 hgrow1; have H1 := Lib.hid (And.intro hown1 (And.intro hgrow1 hm1)); clear hown1 hgrow1 hm1)
    | (refine wpList_append_opt _ rfl _ _ _ rfl w.heap.size 26 i0 (.slice none 0 0) 24 Try.underlying22 HI.out.1 HI.out.2.1 HI.out.2.2.1 HI.out.2.2.2 rfl v1 (0 + n) ([] ++ ps.map TP.v) rfl H1.out.1 I m ci (qs.map TP.v) rfl (HH.out.2.mod H1.out.2.2) oneCell_rows (by unfold maxLen; omega) (by omega) (by have := H1.out.2.2.size; omega) ?_; intro v2 w2 hown2 hgrow2; have H2 := Lib.hid (And.intro hown2 hgrow2); clear hown2 hgrow2))
  go_ret
  have hm2 : Mod (fun _ => False) w w2 := H1.out.2.2.grown H2.out.2 (fun k e hk => by have := (own_block H1.out.1 e).1; omega)
  have h := H2.out.1
  rw [List.nil_append, Nat.zero_add, ← List.map_append] at h
  exact own_told h hm2
end Go.Proofs.Ytmeooadgdagiiaa

namespace Go.Proofs.Ytmeooadgdagiiaa
open Go.RowKit Lox
set_option linter.unusedVariables false

/-- A box of a node: its block, its least and its greatest point. -/
structure BX where
  g : Nat
  mn : TP
  mx : TP

/-- A tree as it lies in memory: of each node its block, its point, its plane, its box. -/
inductive MT where
  | nil
  | node (g : Nat) (p : TP) (d : Nat) (bx : Option BX) (l r : MT)

def MT.T : MT → KB.T TP
  | .nil => .nil
  | .node _ p d _ l r => .node p d l.T r.T

/-- The nodes' blocks. -/
def MT.gs : MT → List Nat
  | .nil => []
  | .node g _ _ _ l r => g :: (l.gs ++ r.gs)

/-- No node has a box. -/
def MT.bare : MT → Prop
  | .nil => True
  | .node _ _ _ bx l r => bx = none ∧ l.bare ∧ r.bare

def boxV : Option BX → Value
  | none => .pointer none
  | some x => .pointer (some ⟨x.g, 0, none⟩)

/-- What stands in a node's block. -/
def nodeCells (p : TP) (d : Nat) (lv rv : Value) (bx : Option BX) : List Value := [.iface 73 p.v, .int .i64 d, lv, rv, boxV bx]

/-- In world w, at v, such a tree stands. -/
def MT.In (w : World) : MT → Value → Prop
  | .nil, v => v = .pointer none
  | .node g p d bx l r, v => v = .pointer (some ⟨g, 0, none⟩) ∧ ∃ lv rv, Blk w g 122 (nodeCells p d lv rv bx) ∧ l.In w lv ∧ r.In w rv

theorem MT.In.ptr {w : World} {t : MT} {v : Value} (h : t.In w v) : ∃ q, v = .pointer q := by
  cases t with
  | nil => exact ⟨_, h⟩
  | node g p d bx l r => exact ⟨_, h.1⟩

theorem MT.In.keep {w w' : World} : ∀ {t : MT} {v : Value}, t.In w v → (∀ k ∈ t.gs, k < w.heap.size → w'.heap[k]? = w.heap[k]?) → t.In w' v := by
  intro t
  induction t with
  | nil => intro v h _; exact h
  | node g p d bx l r ihl ihr =>
    intro v h hk
    obtain ⟨e, lv, rv, hb, hl, hr⟩ := h
    refine ⟨e, lv, rv, ?_, ihl hl fun k hm => hk k (by simp [MT.gs, hm]), ihr hr fun k hm => hk k (by simp [MT.gs, hm])⟩
    have := hk g (by simp [MT.gs]) hb.lt
    unfold Blk at *
    rw [this, hb]

theorem MT.In.lt {w : World} : ∀ {t : MT} {v : Value}, t.In w v → ∀ k ∈ t.gs, k < w.heap.size := by
  intro t
  induction t with
  | nil => intro v h k hk; cases hk
  | node g p d bx l r ihl ihr =>
    intro v h k hk
    obtain ⟨e, lv, rv, hb, hl, hr⟩ := h
    rcases List.mem_cons.1 hk with rfl | hk
    · exact hb.lt
    · rcases List.mem_append.1 hk with hk | hk
      · exact ihl hl k hk
      · exact ihr hr k hk

theorem MT.In.mod {w w' : World} {t : MT} {v : Value} {S : Nat → Prop} (h : t.In w v) (hm : Mod S w w') (hS : ∀ k ∈ t.gs, ¬ S k) : t.In w' v :=
  h.keep fun k hk hl => hm.block k hl (hS k hk)

/-- A block in which no float number stands. -/
def NoFlt (w : World) (k : Nat) : Prop := ∀ o x, w.cell? ⟨k, o, none⟩ ≠ some (.float .f64 x)

theorem MT.In.noFlt {w : World} : ∀ {t : MT} {v : Value}, t.In w v → ∀ k ∈ t.gs, NoFlt w k := by
  intro t
  induction t with
  | nil => intro v h k hk; cases hk
  | node g p d bx l r ihl ihr =>
    intro v h k hk
    obtain ⟨e, lv, rv, hb, hl, hr⟩ := h
    rcases List.mem_cons.1 hk with rfl | hk
    · intro o x hc
      rw [hb.cell] at hc
      obtain ⟨q1, rfl⟩ := hl.ptr
      obtain ⟨q2, rfl⟩ := hr.ptr
      have hm := List.mem_of_getElem? hc
      unfold nodeCells boxV at hm
      cases bx <;> simp at hm
    · rcases List.mem_append.1 hk with hk | hk
      · exact ihl hl k hk
      · exact ihr hr k hk

/-- A point of a coordinate at least is as it was where only blocks without numbers have turned. -/
theorem TP.Ok.noFlt {w w' : World} {dims : Nat} {S : Nat → Prop} {p : TP} (h : p.Ok w dims) (hm : Mod S w w') (hS : ∀ k, k < w.heap.size → S k → NoFlt w k) : p.Ok w' dims := by
  refine ⟨h.1, h.2.1, fun h0 => ?_⟩
  obtain ⟨b, o, e, hc⟩ := h.2.2 h0
  refine ⟨b, o, e, fun j v hv => ?_⟩
  have hcj := hc j v hv
  refine (hm.cell (lt_of_cell hcj) (fun hs => ?_)).trans hcj
  have hv' : ∃ x, v = .float .f64 x := by
    have hm' := List.mem_of_getElem? hv
    obtain ⟨x, _, rfl⟩ := List.mem_map.1 hm'
    exact ⟨x, rfl⟩
  obtain ⟨x, rfl⟩ := hv'
  exact hS b (lt_of_cell hcj) hs (o + j) x hcj

/-- The points of a tree. -/
def MT.pts : MT → List TP
  | .nil => []
  | .node _ p _ _ l r => l.pts ++ p :: r.pts

theorem MT.pts_all : ∀ t : MT, t.pts = t.T.all := by
  intro t
  induction t with
  | nil => rfl
  | node g p d bx l r ihl ihr => simp only [MT.pts, MT.T, KB.T.all, ihl, ihr]
end Go.Proofs.Ytmeooadgdagiiaa
