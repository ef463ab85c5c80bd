/- Steps of a proof, one behind another: sort.Sort(sort.Reverse(k)) over a keeper within a distance: what the order is; what is asked of the receiver holds. (Printed by wip/gen_ws.py.) The build of a k-d tree as a plain function: Partition, the picks, the tree. The array of points that a k-d tree is built of: Len and Swap over a window of it. The array of points that a k-d tree is built of: Len and Less. Which function a method of the k-d tree's doors is. The walk of Partition over a window of the array of points. The walks of the k-d tree's list of points whose pivots are picked by numbers: Len, Index, Slice, Pivot. k-d trees as New and Insert make them, in memory. Conditions: as each theorem says. -/
import Derived.Test.YtmeooadgdagiiaaGreatMw4
import Derived.Test.YtmeooadgdagiiaaGreatRows
import Derived.Deep.QuietTactic

namespace Go.Proofs.YtmeooadgdagiiaaGreat.K.D
open Go.RowKit Lox Go.Sort
set_option linter.unusedVariables false
variable {S : Nat}
attribute [local go_sem] run_store_flt run_store_fn

set_option maxHeartbeats 4000000 in
theorem kswap_same (w : World) (kb hb len cap : Nat) (els : List El) (i : Nat) (I : Int) (hI : I = i) (h : DKS S w kb hb len cap els) (hi : i < len) (hl : len ≤ 1099511627776) :
    Calls Tryz.prog 108 #[.pointer (some ⟨kb, 0, none⟩), .int .i64 I, .int .i64 I] w fun e w' => e = .returned (.tuple #[]) ∧ DKS S w' kb hb len cap (swapE els i i) ∧ Mod (fun k => k = hb) w w' := by
  subst hI
  have c0 := h.top.1
  obtain ⟨v, b, d0, d1, z0, z1, he⟩ := h.at hi
  have i1 : (0 : Int) ≤ i := by omega
  have i2 : (i : Int) < len := by omega
  have HH := Lib.hid (And.intro h he)
  have sv : ∀ (w : World) (a : Addr) (m : Mode), (store a v m).run Tryz.prog w = stored Tryz.prog w a v m := fun w a m => run_store _ w a v m (elAt_one he)
  clear h he
  go_enter Tryz.func108, Tryz.ntmps108
  go_wp2
  go_region
  all_goals
    have hK : DKS S (((((w.setCell ⟨hb, i * 2, none⟩ v).setCell ⟨hb, i * 2 + 1, none⟩ (.float .f64 b)).setCell ⟨hb, i * 2, none⟩ v).setCell ⟨hb, i * 2 + 1, none⟩ (.float .f64 b)).drew) kb hb len cap (swapE els i i) := ((HH.out.1.put hi HH.out.2).put hi HH.out.2).drew
    have hM := ((mod_put (mod_put (Mod.refl (fun k => k = hb) w) (a := i * 2) (b := i * 2 + 1) (x := v) (y := .float .f64 b)) (a := i * 2) (b := i * 2 + 1) (x := v) (y := .float .f64 b))).drew
    refine bodyPost_end (by simp [results, Tryz.results108, go_sem]) rfl ⟨rfl, hK, hM⟩

theorem kswap_any (w : World) (kb hb len cap : Nat) (els : List El) (i j : Nat) (h : DKS S w kb hb len cap els) (hi : i < len) (hj : j < len) (hl : len ≤ 1099511627776) :
    Calls Tryz.prog 108 #[.pointer (some ⟨kb, 0, none⟩), .int .i64 i, .int .i64 j] w fun e w' => e = .returned (.tuple #[]) ∧ DKS S w' kb hb len cap (swapE els i j) ∧ Mod (fun k => k = hb) w w' := by
  by_cases hij : i = j
  · subst hij; exact kswap_same w kb hb len cap els i i rfl h hi hl
  · exact kswap_at w kb hb len cap els i j i j rfl rfl h hi hj hij hl

abbrev KP (kb : Nat) : Value := .iface 58 (.pointer (some ⟨kb, 0, none⟩))

theorem rmeth_less (rb : Nat) (w : World) : (method 279 120 (.pointer (some ⟨rb, 0, none⟩)) "Less").run Tryz.prog w = (do let v ← loadVar 122 ⟨rb, 0, none⟩; pure (111, v) : Sem (FuncId × Value)).run Tryz.prog w := by kernel_rfl
theorem rmeth_swap (rb : Nat) (w : World) : (method 279 120 (.pointer (some ⟨rb, 0, none⟩)) "Swap").run Tryz.prog w = (do match (← loadVar 103 ⟨rb, 0, none⟩) with | .iface t' v' => method 278 t' v' "Swap" | .nilIface => runtimePanic .nilDeref | _ => stuck "method row: interface value expected" : Sem (FuncId × Value)).run Tryz.prog w := by kernel_rfl
theorem rmeth_len (rb : Nat) (w : World) : (method 279 120 (.pointer (some ⟨rb, 0, none⟩)) "Len").run Tryz.prog w = (do match (← loadVar 103 ⟨rb, 0, none⟩) with | .iface t' v' => method 278 t' v' "Len" | .nilIface => runtimePanic .nilDeref | _ => stuck "method row: interface value expected" : Sem (FuncId × Value)).run Tryz.prog w := by kernel_rfl
theorem kmeth_swap7 (a : Addr) (w : World) : (method 278 58 (.pointer (some a)) "Swap").run Tryz.prog w = .ok (108, .pointer (some a)) w := by kernel_rfl
theorem kmeth_len7 (a : Addr) (w : World) : (method 278 58 (.pointer (some a)) "Len").run Tryz.prog w = .ok (104, .pointer (some a)) w := by kernel_rfl
theorem kmeth_less8 (a : Addr) (w : World) : (method 279 58 (.pointer (some a)) "Less").run Tryz.prog w = .ok (105, .pointer (some a)) w := by kernel_rfl

section
variable {rb kb : Nat} {w : World}
theorem find_swap (hb : Blk w rb 122 [KP kb]) : (method 279 120 (.pointer (some ⟨rb, 0, none⟩)) "Swap").run Tryz.prog w = .ok (108, .pointer (some ⟨kb, 0, none⟩)) w := by
  have c := hb.at (i := 0) rfl
  rw [rmeth_swap]
  simp [go_sem, c, loadVar, kmeth_swap7]
theorem find_len (hb : Blk w rb 122 [KP kb]) : (method 279 120 (.pointer (some ⟨rb, 0, none⟩)) "Len").run Tryz.prog w = .ok (104, .pointer (some ⟨kb, 0, none⟩)) w := by
  have c := hb.at (i := 0) rfl
  rw [rmeth_len]
  simp [go_sem, c, loadVar, kmeth_len7]
theorem find_less (hb : Blk w rb 122 [KP kb]) : (method 279 120 (.pointer (some ⟨rb, 0, none⟩)) "Less").run Tryz.prog w = .ok (111, .agg #[KP kb]) w := by
  have c := hb.at (i := 0) rfl
  rw [rmeth_less]
  simp [go_sem, c, loadVar]
end

set_option maxHeartbeats 2000000 in
set_option maxRecDepth 100000 in
theorem rless_at (w : World) (kb hb len cap : Nat) (els : List El) (i j : Nat) (h : DKS S w kb hb len cap els) (hi : i < len) (hj : j < len) (hl : len ≤ 1099511627776) :
    Calls Tryz.prog 111 #[.agg #[KP kb], .int .i64 i, .int .i64 j] w fun e w' => e = .returned (.bool (lessE (at' els j) (at' els i))) ∧ Mod (fun _ => False) w w' := by
  have HL : Hid (∀ w2, Mod (fun _ => False) w w2 → Calls Tryz.prog 105 #[.pointer (some ⟨kb, 0, none⟩), .int .i64 j, .int .i64 i] w2 fun e w' => e = .returned (.bool (lessE (at' els j) (at' els i))) ∧ Hid (Mod (fun _ => False) w w')) := fun w2 hm =>
    (kless_at w2 kb hb len cap els j i j i rfl rfl (h.mod hm (fun h => h) (fun h => h)) hj hi hl).mono fun e w' ⟨he, n, hw⟩ => ⟨he, by rw [hw]; exact hm.trans (mod_drewN _ _ _)⟩
  have m1 := kmeth_less8
  clear h
  go_enter Tryz.func111, Tryz.ntmps111
  go_wp2_with (go_at_call 105; refine (HL.out _ ((Mod.refl _ _).alloc _)).mono ?_; rintro e w2 ⟨rfl, H2⟩)
  go_ret
  exact ⟨rfl, H2.out⟩

/-- The keeper's list in an array of the sort's. -/
structure KSt (S rb kb hb n cap H : Nat) (w : World) (d : Array El) : Prop where
  ks : DKS S w kb hb n cap d.toList
  rev : Blk w rb 122 [KP kb]
  low : H ≤ w.heap.size
  one : OneE d.toList

theorem srt_k (S rb kb hb n cap H : Nat) (h1 : rb < H) (h2 : kb < H) (h3 : hb < H) (h4 : rb ≠ hb) (h5 : kb ≠ hb) (hl : n ≤ 1099511627776) :
    Srt 120 (.pointer (some ⟨rb, 0, none⟩)) (.agg #[KP kb]) (.pointer (some ⟨kb, 0, none⟩)) 111 108 ltR n H (fun k => k = hb) (KSt S rb kb hb n cap H) where
  findL := fun w d h => find_less h.rev
  findS := fun w d h => find_swap h.rev
  enterL := enters_of Tryz.func111 (by kernel_rfl) rfl
  enterS := enters_of Tryz.func108 (by kernel_rfl) rfl
  size := fun w d h => by have := h.ks.bds.2.2.2.1; rw [this, Array.length_toList]
  most := by omega
  keep := fun w w' d hm h => ⟨h.ks.mod hm (by omega) (by omega), h.rev.mod hm (by omega), Nat.le_trans h.low hm.size, h.one⟩
  low := fun w d h => h.low
  less := fun w d i j h hi hj hij => by
    refine (rless_at w kb hb n cap d.toList i j h.ks hi hj hl).mono fun e w' ⟨he, hm⟩ => ⟨?_, hm⟩
    have hn : n = d.size := by have := h.ks.bds.2.2.2.1; rw [this, Array.length_toList]
    rw [he, ltR_of h.one (by rw [Array.length_toList]; omega) (by rw [Array.length_toList]; omega) hij, get_at d i, get_at d j]
  swap := fun w d i j h hi hj => by
    have hn : n = d.size := by have := h.ks.bds.2.2.2.1; rw [this, Array.length_toList]
    refine (kswap_any w kb hb n cap d.toList i j h.ks hi hj hl).mono fun e w' ⟨he, hk, hm⟩ => ⟨he, ⟨?_, h.rev.mod hm h4, Nat.le_trans h.low hm.size, ?_⟩, hm⟩
    · rw [swp_list d i j]; exact hk
    · rw [swp_list d i j]; exact h.one.swap (by rw [Array.length_toList]; omega) (by rw [Array.length_toList]; omega)
  far := fun k hk => by omega

set_option maxHeartbeats 1000000 in
/-- sort.Sort(sort.Reverse(k)), the reverse standing in block rb. -/
theorem ksort_at (S rb kb hb n cap : Nat) (els : List El) (w : World) (h : DKS S w kb hb n cap els) (hr : Blk w rb 122 [KP kb]) (h1 : OneE els) (hl : n < 65536) (h4 : rb ≠ hb) :
    Calls Tryz.prog 36 #[.iface 120 (.pointer (some ⟨rb, 0, none⟩))] w fun e w' => e = .returned (.tuple #[]) ∧ ∃ els', els'.Perm els ∧ UpE els' ∧ DKS S w' kb hb n cap els' ∧ Mod (fun k => k = hb) w w' := by
  have hb := h.bds
  have hn : n = els.toArray.size := by rw [hb.2.2.2.1]; rfl
  refine (sort_at (srt_k S rb kb _ n cap w.heap.size hr.lt hb.2.1 hb.2.2.1 h4 hb.1 (by omega)) swo_ltR hl 104 (.pointer (some ⟨kb, 0, none⟩)) (fun w d h => find_len h.rev)
    (enters_of Tryz.func104 (by kernel_rfl) rfl) (fun w d h => (klen_at w kb _ n cap d.toList h.ks).mono fun e w' ⟨he, hw⟩ => ⟨he, by rw [hw]; exact Mod.refl _ _⟩)
    els.toArray w ⟨h, hr, Nat.le_refl _, h1⟩).mono fun e w' ⟨he, d', hp, hs, hA⟩ => ⟨he, d'.toList, ?_, ?_, hA.1.ks, hA.2⟩
  · have h1 := hp.2.2
    rw [Array.extract_eq_self_of_le (by rw [hp.1]; omega), Array.extract_eq_self_of_le (by omega)] at h1
    exact h1
  · exact up_of (by rw [hp.1, ← hn]) hs
end Go.Proofs.YtmeooadgdagiiaaGreat.K.D

namespace Lox.KB

variable {α : Type}

/-- Two places of a list, changed one for the other. -/
def swp (l : List α) (i j : Nat) : List α :=
  match l[i]?, l[j]? with
  | some a, some b => (l.set i b).set j a
  | _, _ => l

theorem swp_len (l : List α) (i j : Nat) : (swp l i j).length = l.length := by
  unfold swp; split <;> simp

theorem swp_at (l : List α) (i j : Nat) (hi : i < l.length) (hj : j < l.length) (k : Nat) :
    (swp l i j)[k]? = if k = j then l[i]? else if k = i then l[j]? else l[k]? := by
  unfold swp
  rw [List.getElem?_eq_getElem hi, List.getElem?_eq_getElem hj]
  simp only [List.getElem?_set, List.length_set]
  by_cases h1 : k = j
  · subst h1; simp [hj]
  · by_cases h2 : k = i
    · subst h2; simp [h1, hi, Ne.symm h1]
    · simp [Ne.symm h1, Ne.symm h2, h1, h2]

theorem swp_same (l : List α) (i : Nat) : swp l i i = l := by
  apply List.ext_getElem?
  intro k
  by_cases hi : i < l.length
  · rw [swp_at l i i hi hi]; split
    · next h => rw [h]
    · rfl
  · unfold swp
    rw [List.getElem?_eq_none (l := l) (i := i) (by omega)]

theorem swp_perm (l : List α) (i j : Nat) : (swp l i j).Perm l := by
  by_cases hi : i < l.length
  · by_cases hj : j < l.length
    · have : swp l i j = (l.set i l[j]).set j l[i] := by
        unfold swp; rw [List.getElem?_eq_getElem hi, List.getElem?_eq_getElem hj]
      rw [this]
      exact List.set_set_perm hi hj
    · unfold swp
      rw [List.getElem?_eq_none (l := l) (i := j) (by omega)]
      split
      · next h => cases h
      · exact List.Perm.refl _
  · unfold swp
    rw [List.getElem?_eq_none (l := l) (i := i) (by omega)]

theorem swp_mid (A l B : List α) (i j : Nat) (hi : i < l.length) (hj : j < l.length) : swp (A ++ (l ++ B)) (A.length + i) (A.length + j) = A ++ (swp l i j ++ B) := by
  have get : ∀ k, k < l.length → (A ++ (l ++ B))[A.length + k]? = l[k]? := by
    intro k hk
    rw [List.getElem?_append_right (by omega), List.getElem?_append_left (by omega)]
    congr 1
    omega
  unfold swp
  rw [get i hi, get j hj, List.getElem?_eq_getElem hi, List.getElem?_eq_getElem hj]
  simp only
  rw [List.set_append_right _ _ (by omega), List.set_append_right _ _ (by omega), List.set_append_left _ _ (by omega), List.set_append_left _ _ (by simp; omega)]
  simp

/-- Partition's loop: n rounds to go, at i, with the index that it holds. le x y: x's number is at most y's. -/
def partLoop (le : α → α → Bool) (last : Nat) : Nat → List α → Nat → Nat → List α × Nat
  | 0, l, _, idx => (l, idx)
  | n + 1, l, i, idx =>
    match l[i]?, l[last]? with
    | some x, some p => if le x p then partLoop le last n (swp l idx i) (i + 1) (idx + 1) else partLoop le last n l (i + 1) idx
    | _, _ => (l, idx)

/-- Partition: the list behind it, and the place that it returns. -/
def part (le : α → α → Bool) (l : List α) (k : Nat) : List α × Nat :=
  let r := partLoop le (l.length - 1) (l.length - 1) (swp l k (l.length - 1)) 0 0
  (swp r.1 (l.length - 1) r.2, r.2)

/-- What the loop keeps. -/
structure PI (le : α → α → Bool) (last : Nat) (p : α) (l0 l : List α) (i idx : Nat) : Prop where
  len : l.length = l0.length
  perm : l.Perm l0
  piv : l[last]? = some p
  ii : idx ≤ i
  il : i ≤ last
  low : ∀ j x, j < idx → l[j]? = some x → le x p = true
  high : ∀ j x, idx ≤ j → j < i → l[j]? = some x → le x p = false

theorem partLoop_ok (le : α → α → Bool) (last : Nat) (p : α) (l0 : List α) (hl : last < l0.length) :
    ∀ (n : Nat) (l : List α) (i idx : Nat), i + n = last → PI le last p l0 l i idx →
      PI le last p l0 (partLoop le last n l i idx).1 last (partLoop le last n l i idx).2 := by
  intro n
  induction n with
  | zero => intro l i idx hn h; have : i = last := by omega
            subst this; exact h
  | succ n ih =>
    intro l i idx hn h
    have hi : i < l.length := by rw [h.len]; omega
    have hx : idx < l.length := by have := h.ii; omega
    have hla : last < l.length := by rw [h.len]; omega
    have hle := h.ii
    unfold partLoop
    rw [List.getElem?_eq_getElem hi, h.piv]
    by_cases hc : le l[i] p = true
    · simp only [hc, if_true]
      refine ih _ _ _ (by omega) ⟨by rw [swp_len, h.len], (swp_perm _ _ _).trans h.perm, ?_, by omega, by omega, ?_, ?_⟩
      · rw [swp_at _ _ _ hx hi, if_neg (by omega), if_neg (by omega)]; exact h.piv
      · intro j x hj e
        rw [swp_at _ _ _ hx hi] at e
        by_cases h1 : j = i
        · rw [if_pos h1] at e
          have hxi : idx = i := by omega
          rw [hxi, List.getElem?_eq_getElem hi] at e
          cases e; exact hc
        · rw [if_neg h1] at e
          by_cases h2 : j = idx
          · rw [if_pos h2, List.getElem?_eq_getElem hi] at e; cases e; exact hc
          · rw [if_neg h2] at e; exact h.low j x (by omega) e
      · intro j x h1 h2 e
        rw [swp_at _ _ _ hx hi] at e
        by_cases h3 : j = i
        · rw [if_pos h3] at e; exact h.high idx x (by omega) (by omega) e
        · rw [if_neg h3, if_neg (by omega)] at e; exact h.high j x (by omega) (by omega) e
    · simp only [hc, if_false, Bool.false_eq_true]
      refine ih _ _ _ (by omega) ⟨h.len, h.perm, h.piv, by omega, by omega, h.low, ?_⟩
      intro j x h1 h2 e
      by_cases h3 : j = i
      · rw [h3, List.getElem?_eq_getElem hi] at e; cases e; simpa using hc
      · exact h.high j x h1 (by omega) e

theorem part_len (le : α → α → Bool) (l : List α) (k : Nat) (hk : k < l.length) (p : α) (hp : l[k]? = some p) :
    PI le (l.length - 1) p l (partLoop le (l.length - 1) (l.length - 1) (swp l k (l.length - 1)) 0 0).1 (l.length - 1)
      (partLoop le (l.length - 1) (l.length - 1) (swp l k (l.length - 1)) 0 0).2 := by
  refine partLoop_ok le _ p l (by omega) _ _ 0 0 (by omega) ⟨swp_len _ _ _, swp_perm _ _ _, ?_, by omega, by omega, by intro j _ h; omega, by intro j _ _ h; omega⟩
  rw [swp_at _ _ _ hk (by omega), if_pos rfl, hp]

/-- What Partition does: the place is one of the list's, the picked one stands there, those before are at most it, those behind are not. -/
theorem part_ok (le : α → α → Bool) (l : List α) (k : Nat) (hk : k < l.length) (p : α) (hp : l[k]? = some p) :
    (part le l k).1.length = l.length ∧ (part le l k).1.Perm l ∧ (part le l k).2 < l.length ∧ (part le l k).1[(part le l k).2]? = some p ∧
      (∀ j x, j < (part le l k).2 → (part le l k).1[j]? = some x → le x p = true) ∧
      (∀ j x, (part le l k).2 < j → (part le l k).1[j]? = some x → le x p = false) := by
  have h := part_len le l k hk p hp
  unfold part
  generalize (partLoop le (l.length - 1) (l.length - 1) (swp l k (l.length - 1)) 0 0) = r at h
  obtain ⟨m, idx⟩ := r
  simp only at h ⊢
  have hlen := h.len
  have hle := h.ii
  have hx : idx < m.length := by omega
  have hla : l.length - 1 < m.length := by omega
  refine ⟨by rw [swp_len, h.len], (swp_perm _ _ _).trans h.perm, by omega, ?_, ?_, ?_⟩
  · rw [swp_at _ _ _ hla hx, if_pos rfl]; exact h.piv
  · intro j x hj e
    rw [swp_at _ _ _ hla hx, if_neg (by omega), if_neg (by omega)] at e
    exact h.low j x hj e
  · intro j x hj e
    have hj2 : j < m.length := by
      have := (List.getElem?_eq_some_iff.1 e).1; rw [swp_len] at this; exact this
    rw [swp_at _ _ _ hla hx, if_neg (by omega)] at e
    by_cases h1 : j = l.length - 1
    · rw [if_pos h1] at e; exact h.high idx x (by omega) (by omega) e
    · rw [if_neg h1] at e; exact h.high j x (by omega) (by omega) e

/-- A tree of points. -/
inductive T (α : Type) where
  | nil
  | node (p : α) (plane : Nat) (l r : T α)

def T.all : T α → List α
  | .nil => []
  | .node p _ l r => l.all ++ p :: r.all

/-- Which one is picked of n, and what picks are left. -/
def pick (n : Nat) : List Nat → Nat × List Nat
  | [] => (n / 2, [])
  | k :: ks => (k % n, ks)

/-- build: dims coordinates, at: which number of a point. -/
def build (le : Nat → α → α → Bool) (dims : Nat) : Nat → List α → List Nat → Nat → T α × List Nat
  | 0, _, ks, _ => (.nil, ks)
  | n + 1, l, ks, d =>
    if l.length = 0 then (.nil, ks) else
    let k := pick l.length ks
    let r := part (le d) l k.1
    match r.1[r.2]? with
    | none => (.nil, ks)
    | some p =>
      let a := build le dims n (r.1.take r.2) k.2 ((d + 1) % dims)
      let b := build le dims n (r.1.drop (r.2 + 1)) a.2 ((d + 1) % dims)
      (.node p d a.1 b.1, b.2)

theorem pick_lt (n : Nat) (hn : 0 < n) (ks : List Nat) : (pick n ks).1 < n := by
  unfold pick
  split
  · exact Nat.div_lt_self hn (by decide)
  · exact Nat.mod_lt _ hn

/-- All the points of a tree. -/
def T.Each (P : α → Nat → Prop) : T α → Prop
  | .nil => True
  | .node p d l r => P p d ∧ l.Each P ∧ r.Each P

/-- On a node's left no number on its plane is above its own, on its right all are. -/
def T.Ord (le : Nat → α → α → Bool) : T α → Prop
  | .nil => True
  | .node p d l r => (∀ x ∈ l.all, le d x p = true) ∧ (∀ x ∈ r.all, le d x p = false) ∧ l.Ord le ∧ r.Ord le

theorem split_at {l : List α} {i : Nat} {p : α} (h : l[i]? = some p) : l.take i ++ p :: l.drop (i + 1) = l := by
  obtain ⟨hi, e⟩ := List.getElem?_eq_some_iff.1 h
  rw [← e, List.getElem_cons_drop, List.take_append_drop]

theorem build_node (le : Nat → α → α → Bool) (dims n : Nat) (l : List α) (ks : List Nat) (d : Nat) (hl : 0 < l.length) (p : α) (hp : l[(pick l.length ks).1]? = some p) :
    ∃ (m : List α) (i : Nat), part (le d) l (pick l.length ks).1 = (m, i) ∧ m.length = l.length ∧ m.Perm l ∧ i < l.length ∧ m[i]? = some p ∧
      (∀ x ∈ m.take i, le d x p = true) ∧ (∀ x ∈ m.drop (i + 1), le d x p = false) ∧
      build le dims (n + 1) l ks d = (.node p d (build le dims n (m.take i) (pick l.length ks).2 ((d + 1) % dims)).1
        (build le dims n (m.drop (i + 1)) (build le dims n (m.take i) (pick l.length ks).2 ((d + 1) % dims)).2 ((d + 1) % dims)).1,
        (build le dims n (m.drop (i + 1)) (build le dims n (m.take i) (pick l.length ks).2 ((d + 1) % dims)).2 ((d + 1) % dims)).2) := by
  obtain ⟨h1, h2, h3, h4, h5, h6⟩ := part_ok (le d) l (pick l.length ks).1 (pick_lt _ hl _) p hp
  generalize hr : part (le d) l (pick l.length ks).1 = r at h1 h2 h3 h4 h5 h6
  obtain ⟨m, i⟩ := r
  simp only at h1 h2 h3 h4 h5 h6
  refine ⟨m, i, rfl, h1, h2, h3, h4, ?_, ?_, ?_⟩
  · intro x hx
    obtain ⟨j, hj, e⟩ := List.mem_iff_getElem.1 hx
    rw [List.length_take] at hj
    refine h5 j x (by omega) ?_
    rw [List.getElem_take] at e
    rw [← e]; exact List.getElem?_eq_getElem _
  · intro x hx
    obtain ⟨j, hj, e⟩ := List.mem_iff_getElem.1 hx
    rw [List.length_drop] at hj
    refine h6 (i + 1 + j) x (by omega) ?_
    rw [List.getElem_drop] at e
    rw [← e]; exact List.getElem?_eq_getElem _
  · conv => lhs; unfold build
    rw [if_neg (by omega)]
    simp only [hr, h4]

theorem build_all (le : Nat → α → α → Bool) (dims : Nat) (hd : 0 < dims) : ∀ (n : Nat) (l : List α) (ks : List Nat) (d : Nat), l.length ≤ n → d < dims →
    (build le dims n l ks d).1.all.Perm l ∧ (build le dims n l ks d).1.Ord le ∧ (build le dims n l ks d).1.Each (fun _ d => d < dims) := by
  intro n
  induction n with
  | zero => intro l ks d hl hdd
            have : l = [] := List.length_eq_zero_iff.1 (by omega)
            subst this; unfold build; exact ⟨List.Perm.refl _, trivial, trivial⟩
  | succ n ih =>
    intro l ks d hl hdd
    by_cases h0 : l.length = 0
    · have : l = [] := List.length_eq_zero_iff.1 h0
      subst this; unfold build; rw [if_pos (by simp)]; exact ⟨List.Perm.refl _, trivial, trivial⟩
    · have hk := pick_lt l.length (by omega) ks
      obtain ⟨m, i, hp, e1, e2, e3, e4, e5, e6, e7⟩ := build_node le dims n l ks d (by omega) _ (List.getElem?_eq_getElem hk)
      rw [e7]
      have hn := Nat.mod_lt (d + 1) hd
      obtain ⟨a1, a2, a3⟩ := ih (m.take i) (pick l.length ks).2 ((d + 1) % dims) (by rw [List.length_take]; omega) hn
      obtain ⟨b1, b2, b3⟩ := ih (m.drop (i + 1)) (build le dims n (m.take i) (pick l.length ks).2 ((d + 1) % dims)).2 ((d + 1) % dims) (by rw [List.length_drop]; omega) hn
      refine ⟨?_, ⟨fun x hx => e5 x (a1.mem_iff.1 hx), fun x hx => e6 x (b1.mem_iff.1 hx), a2, b2⟩, hdd, a3, b3⟩
      simp only [T.all]
      have h := (a1.append (b1.cons l[(pick l.length ks).1]))
      rw [split_at e4] at h
      exact h.trans e2

/-- insert. -/
def ins (le : Nat → α → α → Bool) (dims : Nat) (p : α) : Nat → T α → T α
  | d, .nil => .node p d .nil .nil
  | _, .node q pl l r => if le pl p q then .node q pl (ins le dims p ((pl + 1) % dims) l) r else .node q pl l (ins le dims p ((pl + 1) % dims) r)

def T.rootIs (p : α) : T α → Prop
  | .nil => False
  | .node q _ _ _ => q = p

theorem ins_root (le : Nat → α → α → Bool) (dims : Nat) (p q : α) (d : Nat) (t : T α) (h : t.rootIs q) : (ins le dims p d t).rootIs q := by
  cases t with
  | nil => exact h.elim
  | node a pl l r => unfold ins; split <;> exact h

/-- All inserted. -/
def inss (le : Nat → α → α → Bool) (dims : Nat) (t : T α) (ps : List α) : T α := ps.foldl (fun t p => ins le dims p 0 t) t

theorem inss_root (le : Nat → α → α → Bool) (dims : Nat) (q : α) : ∀ (ps : List α) (t : T α), t.rootIs q → (inss le dims t ps).rootIs q := by
  intro ps
  induction ps with
  | nil => intro t h; exact h
  | cons p ps ih => intro t h; exact ih _ (ins_root le dims p q 0 t h)

theorem build_root (le : Nat → α → α → Bool) (dims n : Nat) (l : List α) (ks : List Nat) (hl : 0 < l.length) (p : α) (hp : l[(pick l.length ks).1]? = some p) : (build le dims (n + 1) l ks 0).1.rootIs p := by
  obtain ⟨m, i, _, _, _, _, _, _, _, e7⟩ := build_node le dims n l ks 0 hl p hp
  rw [e7]; rfl

end Lox.KB

namespace Go.Proofs.YtmeooadgdagiiaaGreat
open Go.RowKit Lox
set_option linter.unusedVariables false
attribute [local go_sem] run_store_flt run_store_fn undef

/-- A point as it lies in the array: its slice and the numbers' bits. -/
structure TP where
  A : Option Addr
  c : Nat
  xs : List Nat

def TP.v (p : TP) : Value := .slice p.A p.xs.length p.c

/-- The array's block: the points, and whatever stands behind them. -/
def TPs (w : World) (pb : Nat) (ps : List TP) : Prop := ∃ rest, Blk w pb 50 (ps.map TP.v ++ rest)

theorem TPs.lt {w : World} {pb : Nat} {ps : List TP} (h : TPs w pb ps) : pb < w.heap.size := by obtain ⟨rest, h⟩ := h; exact h.lt

theorem TPs.at {w : World} {pb i : Nat} {ps : List TP} {p : TP} (h : TPs w pb ps) (hp : ps[i]? = some p) : w.cell? ⟨pb, i, none⟩ = some p.v := by
  obtain ⟨rest, h⟩ := h
  have hl := (List.getElem?_eq_some_iff.1 hp).1
  exact h.at (by rw [List.getElem?_append_left (by simpa using hl), List.getElem?_map, hp]; rfl)

theorem TPs.frozen {w : World} {pb : Nat} {ps : List TP} (h : TPs w pb ps) (i : Nat) : w.frozen? ⟨pb, i, none⟩ = false := by obtain ⟨rest, h⟩ := h; exact h.frozen i

theorem TPs.mod {w w' : World} {pb : Nat} {ps : List TP} {S : Nat → Prop} (h : TPs w pb ps) (hm : Mod S w w') (hS : ¬ S pb) : TPs w' pb ps := by obtain ⟨rest, h⟩ := h; exact ⟨rest, h.mod hm hS⟩

theorem TPs.set {w : World} {pb : Nat} {ps : List TP} (h : TPs w pb ps) (i : Nat) (hi : i < ps.length) (p : TP) : TPs (w.setCell ⟨pb, i, none⟩ p.v) pb (ps.set i p) := by
  obtain ⟨rest, h⟩ := h
  refine ⟨rest, ?_⟩
  have := Blk.set h i p.v
  rw [List.set_append_left _ _ (by simpa using hi)] at this
  rw [List.map_set]
  exact this

theorem TPs.alloc {w : World} {pb : Nat} {ps : List TP} (h : TPs w pb ps) (x : Obj) : TPs (w.alloc x) pb ps := by obtain ⟨rest, h⟩ := h; exact ⟨rest, h.alloc x⟩

theorem TPs.drew {w : World} {pb : Nat} {ps : List TP} (h : TPs w pb ps) : TPs w.drew pb ps := h

theorem swp_set {α : Type} {l : List α} {i j : Nat} {a b : α} (hi : l[i]? = some a) (hj : l[j]? = some b) : KB.swp l i j = (l.set i b).set j a := by
  unfold KB.swp
  rw [hi, hj]

set_option maxHeartbeats 4000000 in
theorem pswap_at (w : World) (d : Int) (pb o n c : Nat) (ps : List TP) (i j : Nat) (I J : Int) (hI : I = i) (hJ : J = j) (h : TPs w pb ps) (hi : i < n) (hj : j < n) (hn : o + n ≤ ps.length) (hl : ps.length ≤ 1099511627776) (hc : n ≤ c) :
    Calls Tryz.prog 119 #[.agg #[.int .i64 d, .slice (some ⟨pb, o, none⟩) n c], .int .i64 I, .int .i64 J] w fun e w' => e = .returned (.tuple #[]) ∧ TPs w' pb (KB.swp ps (o + i) (o + j)) ∧ Mod (fun k => k = pb) w w' := by
  subst hI hJ
  obtain ⟨p, hp⟩ : ∃ p, ps[o + i]? = some p := ⟨_, List.getElem?_eq_getElem (by omega)⟩
  obtain ⟨q, hq⟩ : ∃ q, ps[o + j]? = some q := ⟨_, List.getElem?_eq_getElem (by omega)⟩
  rw [swp_set hp hq]
  have c1 : w.cell? ⟨pb, o + i, none⟩ = some p.v := TPs.at h hp
  have c2 : w.cell? ⟨pb, o + j, none⟩ = some q.v := TPs.at h hq
  have f1 : w.frozen? ⟨pb, o + i, none⟩ = false := TPs.frozen h _
  have f2 : w.frozen? ⟨pb, o + j, none⟩ = false := TPs.frozen h _
  have i1 : (0 : Int) ≤ i := by omega
  have i2 : (i : Int) < n := by omega
  have j1 : (0 : Int) ≤ j := by omega
  have j2 : (j : Int) < n := by omega
  have lt := TPs.lt h
  have HH := Lib.hid h
  clear h
  unfold TP.v at c1 c2
  by_cases hij : i = j
  · subst hij
    obtain rfl : p = q := by have e := hp.symm.trans hq; cases e; rfl
    clear hq hp
    go_enter Tryz.func119, Tryz.ntmps119
    go_wp2
    go_region
    all_goals
      have hK := (((HH.out.set (o + i) (by omega) p).set (o + i) (by rw [List.length_set]; omega) p)).alloc (Obj.cells #[Value.int IntKind.i64 d, Value.slice (some { block := pb, off := o }) n c] 166) |>.drew
      have hM := ((((Mod.refl (fun k => k = pb) w).set (p := ⟨pb, o + i, none⟩) (Or.inl rfl) (.slice p.A p.xs.length p.c)).set (p := ⟨pb, o + i, none⟩) (Or.inl rfl) (.slice p.A p.xs.length p.c)).alloc (Obj.cells #[Value.int IntKind.i64 d, Value.slice (some { block := pb, off := o }) n c] 166)).drew
      refine bodyPost_end (by simp [results, Tryz.results119, go_sem]) rfl ⟨rfl, hK, hM⟩
  · have n1 : o + i ≠ o + j := by omega
    have n2 : o + j ≠ o + i := by omega
    clear hij hp hq
    go_enter Tryz.func119, Tryz.ntmps119
    go_wp2
    go_region
    all_goals
      have hK := (((HH.out.set (o + i) (by omega) q).set (o + j) (by rw [List.length_set]; omega) p)).alloc (Obj.cells #[Value.int IntKind.i64 d, Value.slice (some { block := pb, off := o }) n c] 166) |>.drew
      have hM := ((((Mod.refl (fun k => k = pb) w).set (p := ⟨pb, o + i, none⟩) (Or.inl rfl) (.slice q.A q.xs.length q.c)).set (p := ⟨pb, o + j, none⟩) (Or.inl rfl) (.slice p.A p.xs.length p.c)).alloc (Obj.cells #[Value.int IntKind.i64 d, Value.slice (some { block := pb, off := o }) n c] 166)).drew
      refine bodyPost_end (by simp [results, Tryz.results119, go_sem]) rfl ⟨rfl, hK, hM⟩
end Go.Proofs.YtmeooadgdagiiaaGreat

namespace Go.Proofs.YtmeooadgdagiiaaGreat
open Go.RowKit Lox
set_option linter.unusedVariables false
attribute [local go_sem] run_store_flt run_store_fn

/-- The bits of a point's number. -/
def TP.n (p : TP) (d : Nat) : Nat := (p.xs[d]?).getD 0

/-- x's number on plane d is not above p's, by bits: the program's '!Less(p, x)'. -/
def leB (d : Nat) (x p : TP) : Bool := !(FloatKind.f64.format.order (p.n d) (x.n d) == some .lt)

/-- A point that can be read. -/
def TP.Ok (w : World) (dims : Nat) (p : TP) : Prop := p.xs.length = dims ∧ Sl w p.A p.xs.length 1 (flts p.xs)

set_option maxHeartbeats 4000000 in
theorem pless_at (w : World) (dims d pb o n c : Nat) (ps : List TP) (i j : Nat) (I J D : Int) (hI : I = i) (hJ : J = j) (hD : D = d) (h : TPs w pb ps) (hi : i < n) (hj : j < n) (hn : o + n ≤ ps.length) (hl : ps.length ≤ 1099511627776) (hc : n ≤ c) (hd : d < dims) (hdm : dims ≤ 1099511627776)
    (p q : TP) (hp : ps[o + i]? = some p) (hq : ps[o + j]? = some q) (ho : p.Ok w dims ∧ q.Ok w dims) :
    Calls Tryz.prog 118 #[.agg #[.int .i64 D, .slice (some ⟨pb, o, none⟩) n c], .int .i64 I, .int .i64 J] w fun e w' => e = .returned (.bool (!leB d q p)) ∧ Mod (fun _ => False) w w' := by
  subst hI hJ hD
  have c1 : w.cell? ⟨pb, o + i, none⟩ = some p.v := TPs.at h hp
  have c2 : w.cell? ⟨pb, o + j, none⟩ = some q.v := TPs.at h hq
  obtain ⟨l1, s1, z1⟩ := ho.1
  obtain ⟨l2, s2, z2⟩ := ho.2
  rw [l1] at z1
  rw [l2] at z2
  obtain ⟨b1, o1, e1, r1⟩ := z1 (by omega)
  obtain ⟨b2, o2, e2, r2⟩ := z2 (by omega)
  have k1 : w.cell? ⟨b1, o1 + d, none⟩ = some (.float .f64 (p.n d)) := r1 d _ (by
    have hh : d < p.xs.length := by omega
    simp [flts, TP.n, hh])
  have k2 : w.cell? ⟨b2, o2 + d, none⟩ = some (.float .f64 (q.n d)) := r2 d _ (by
    have hh : d < q.xs.length := by omega
    simp [flts, TP.n, hh])
  have i1 : (0 : Int) ≤ i := by omega
  have i2 : (i : Int) < n := by omega
  have j1 : (0 : Int) ≤ j := by omega
  have j2 : (j : Int) < n := by omega
  have d1 : (0 : Int) ≤ d := by omega
  have d2 : (d : Int) < dims := by omega
  have lt := TPs.lt h
  have lt1 := lt_of_cell k1
  have lt2 := lt_of_cell k2
  unfold TP.v at c1 c2
  rw [l1, e1] at c1
  rw [l2, e2] at c2
  have hres : (!leB d q p) = (FloatKind.f64.format.order (p.n d) (q.n d) == some .lt) := by unfold leB; rw [Bool.not_not]
  rw [hres]
  clear h ho hp hq s1 s2 z1 z2 r1 r2 hres e1 e2
  generalize p.n d = x at k1 ⊢
  generalize q.n d = y at k2 ⊢
  go_enter Tryz.func118, Tryz.ntmps118
  go_wp2
  go_region
  all_goals (go_wp2; go_ret)
  all_goals exact ⟨rfl, ((Mod.refl _ w).alloc _).drew⟩
end Go.Proofs.YtmeooadgdagiiaaGreat

namespace Go.Proofs.YtmeooadgdagiiaaGreat
open Go.RowKit Lox
set_option linter.unusedVariables false

/-- A window of the array, with its plane. -/
abbrev planeV (d : Int) (S : Value) : Value := .agg #[.int .i64 d, S]

theorem pmeth_swap (d : Int) (S : Value) (w : World) : (method 279 166 (planeV d S) "Swap").run Tryz.prog w = .ok (119, planeV d S) w := by kernel_rfl
theorem pmeth_less (d : Int) (S : Value) (w : World) : (method 279 166 (planeV d S) "Less").run Tryz.prog w = .ok (118, planeV d S) w := by kernel_rfl
theorem pmeth_len (d : Int) (S : Value) (w : World) : (method 279 166 (planeV d S) "Len").run Tryz.prog w = .ok (117, planeV d S) w := by kernel_rfl

set_option maxHeartbeats 1000000 in
theorem plen_at (w : World) (d : Int) (A : Option Addr) (n c : Nat) :
    Calls Tryz.prog 117 #[.agg #[.int .i64 d, .slice A n c]] w fun e w' => e = .returned (.int .i64 n) ∧ Mod (fun _ => False) w w' := by
  go_enter Tryz.func117, Tryz.ntmps117
  go_wp2
  go_ret
  exact ⟨rfl, (Mod.refl _ w).alloc _⟩
end Go.Proofs.YtmeooadgdagiiaaGreat

namespace Go.Proofs.YtmeooadgdagiiaaGreat
open Go.RowKit Lox
set_option linter.unusedVariables false
attribute [local go_sem] run_store_flt run_store_fn

/-- A point that can be read and does not lie in the array's own block. -/
def TP.Okp (w : World) (dims pb : Nat) (p : TP) : Prop := p.Ok w dims ∧ ∀ b o, p.A = some ⟨b, o, none⟩ → b ≠ pb

theorem TP.Okp.mod {w w' : World} {dims pb : Nat} {S : Nat → Prop} {p : TP} (h : p.Okp w dims pb) (hm : Mod S w w') (hS : ∀ b o, p.A = some ⟨b, o, none⟩ → ¬ S b) : p.Okp w' dims pb := by
  refine ⟨⟨h.1.1, h.1.2.1, fun h0 => ?_⟩, h.2⟩
  obtain ⟨b, o, e, hc⟩ := h.1.2.2 h0
  exact ⟨b, o, e, fun j v hv => (hm.cell (lt_of_cell (hc j v hv)) (hS b o e)).trans (hc j v hv)⟩

theorem pless_g (w : World) (dims d pb o n c : Nat) (ps : List TP) (i j : Nat) (I J D : Int) (g : Bool) (p q : TP) (hg : g = leB d q p) (hI : I = i) (hJ : J = j) (hD : D = d) (h : TPs w pb ps) (hi : i < n) (hj : j < n) (hn : o + n ≤ ps.length) (hl : ps.length ≤ 1099511627776) (hc : n ≤ c) (hd : d < dims) (hdm : dims ≤ 1099511627776)
    (hp : ps[o + i]? = some p) (hq : ps[o + j]? = some q) (ho : p.Ok w dims ∧ q.Ok w dims) :
    Calls Tryz.prog 118 #[.agg #[.int .i64 D, .slice (some ⟨pb, o, none⟩) n c], .int .i64 I, .int .i64 J] w fun e w' => e = .returned (.bool (!g)) ∧ Mod (fun _ => False) w w' := by
  subst hg
  exact pless_at w dims d pb o n c ps i j I J D hI hJ hD h hi hj hn hl hc hd hdm p q hp hq ho

/-- The loop's state. -/
structure PS (w0 w' : World) (dims d pb n : Nat) (A l1 B : List TP) (i idx : Nat) (l' : List TP) : Prop where
  len : l'.length = n
  ii : idx ≤ i
  perm : l'.Perm l1
  pts : TPs w' pb (A ++ (l' ++ B))
  mod : Mod (fun k => k = pb) w0 w'
  same : KB.partLoop (leB d) (n - 1) (n - 1 - i) l' i idx = KB.partLoop (leB d) (n - 1) (n - 1) l1 0 0

set_option maxRecDepth 100000 in
set_option maxHeartbeats 4000000 in
theorem part_at (w : World) (dims d pb n c k : Nat) (D K : Int) (A l B : List TP) (hD : D = d) (hK : K = k) (h : TPs w pb (A ++ (l ++ B))) (ho : ∀ p ∈ l, p.Okp w dims pb) (hn : l.length = n) (hk : k < n) (hl : (A ++ (l ++ B)).length ≤ 1099511627776) (hc : n ≤ c) (hd : d < dims) (hdm : dims ≤ 1099511627776) :
    Calls Tryz.prog 86 #[.iface 166 (planeV D (.slice (some ⟨pb, A.length, none⟩) n c)), .int .i64 K] w fun e w' => e = .returned (.int .i64 ((KB.part (leB d) l k).2 : Nat)) ∧ TPs w' pb (A ++ ((KB.part (leB d) l k).1 ++ B)) ∧ Mod (fun k => k = pb) w w' := by
  subst hD hK
  have m1 := pmeth_less
  have m2 := pmeth_swap
  have m3 := pmeth_len
  have hb0 : (0 : Int) < n := by omega
  have hb1 : (n : Int) ≤ 1099511627776 := by have h5 := hl; rw [List.length_append, List.length_append, hn] at h5; omega
  have HK := Lib.hid (And.intro h (And.intro ho (And.intro hn hl)))
  clear h ho hn hl
  go_enter Tryz.func86, Tryz.ntmps86
  go_wp2_with (first | (go_at_call 117; refine (plen_at _ d (some ⟨pb, A.length, none⟩) n c).mono ?_; rintro _ w1 ⟨rfl, hm1⟩; have HM1 := Lib.hid hm1; clear hm1) | (go_at_call 119; refine (pswap_at _ d pb A.length n c (A ++ (l ++ B)) k (n - 1) k ((n : Int) - 1) rfl (by omega) (TPs.mod HK.out.1 HM1.out (fun h => h)) hk (by omega) (by have := HK.out.2.2.1; rw [List.length_append, List.length_append]; omega) HK.out.2.2.2 hc).mono ?_; rintro _ w2 ⟨rfl, hk2, hm2⟩; have HK2 := Lib.hid (And.intro hk2 hm2); clear hk2 hm2))
  go_loopw [5, 7] (fun x iv w' => ∃ (i idx : Nat) (l' : List TP), i ≤ n - 1 ∧ x = .int .i64 idx ∧ iv = .int .i64 i ∧ Hid (PS w w' dims d pb n A (KB.swp l k (n - 1)) B i idx l')) (fun _ iv _ => (n - (intOf iv).toNat))
  case atStart => exact ⟨0, 0, KB.swp l k (n - 1), by omega, rfl, rfl, ⟨by rw [KB.swp_len]; exact HK.out.2.2.1, by omega, List.Perm.refl _, by
      have e := KB.swp_mid A l B k (n - 1) (by have := HK.out.2.2.1; omega) (by have := HK.out.2.2.1; omega)
      rw [← e]; exact HK2.out.1, (HM1.out.mono (fun _ _ h => h.elim)).trans HK2.out.2, rfl⟩⟩
  case round =>
    obtain ⟨i, idx, l', hi, rfl, rfl, HR⟩ := hrel
    have HL : ∀ l' : List TP, l'.length = n → (A ++ (l' ++ B)).length ≤ 1099511627776 := by
      intro l' h
      have h5 := HK.out.2.2.2
      have h6 := HK.out.2.2.1
      rw [List.length_append, List.length_append] at h5 ⊢
      omega
    have hii := HR.out.ii
    by_cases hlt : i < n - 1
    · have hlen := HR.out.len
      obtain ⟨x, hx⟩ : ∃ x, l'[i]? = some x := ⟨_, List.getElem?_eq_getElem (by omega)⟩
      obtain ⟨p, hp⟩ : ∃ p, l'[n - 1]? = some p := ⟨_, List.getElem?_eq_getElem (by omega)⟩
      have get : ∀ t, t < n → (A ++ (l' ++ B))[A.length + t]? = l'[t]? := fun t ht => by
        rw [List.getElem?_append_right (by omega), List.getElem?_append_left (by omega)]
        congr 1
        omega
      have HP := Lib.hid (And.intro ((get i (by omega)).trans hx) ((get (n - 1) (by omega)).trans hp))
      obtain ⟨g, hg⟩ : ∃ g, g = leB d x p := ⟨_, rfl⟩
      have hstep : KB.partLoop (leB d) (n - 1) (n - 1 - i) l' i idx = if leB d x p then KB.partLoop (leB d) (n - 1) (n - 1 - (i + 1)) (KB.swp l' idx i) (i + 1) (idx + 1) else KB.partLoop (leB d) (n - 1) (n - 1 - (i + 1)) l' (i + 1) idx := by
        have e : n - 1 - i = n - 1 - (i + 1) + 1 := by omega
        rw [e]
        conv => lhs; unfold KB.partLoop
        rw [hx, hp]
      rw [← hg] at hstep
      have okp : ∀ (y : TP) (t : Nat), l'[t]? = some y → y.Ok wr dims := fun y t hy => by
        have hm := (HR.out.perm.trans (KB.swp_perm l k (n - 1))).mem_iff.1 (List.mem_of_getElem? hy)
        have h5 := HK.out.2.1 y hm
        exact (h5.mod HR.out.mod (fun b o e => h5.2 b o e)).1
      have HO := Lib.hid (And.intro (okp p _ hp) (okp x _ hx))
      clear okp
      have HS := Lib.hid hstep
      have HG := Lib.hid hg
      have h1 : (i : Int) < (n : Int) - 1 := by omega
      have h2 : (idx : Int) ≤ i := by omega
      clear hstep hg hx hp get hlen
      cases g with
      | false =>
        go_wp2_with (go_at_call 118; refine (pless_g _ dims d pb A.length n c (A ++ (l' ++ B)) (n - 1) i ((n : Int) - 1) i d false p x HG.out (by omega) rfl rfl HR.out.pts (by omega) (by omega) (by have := HR.out.len; rw [List.length_append, List.length_append]; omega) (HL l' HR.out.len) hc hd hdm HP.out.2 HP.out.1 HO.out).mono ?_; rintro _ w2 ⟨rfl, hm2⟩; have HL2 := Lib.hid hm2; clear hm2)
        go_roundw
        case rel =>
          refine ⟨i + 1, idx, l', by omega, rfl, by go_num, ⟨HR.out.len, by omega, HR.out.perm, TPs.mod HR.out.pts HL2.out (fun h => h), HR.out.mod.trans (HL2.out.mono (fun _ _ h => h.elim)), ?_⟩⟩
          have h5 := HS.out
          rw [if_neg (by decide)] at h5
          rw [← h5]
          exact HR.out.same
        case measure => simp [intOf]; omega
      | true =>
        go_wp2_with (first | (go_at_call 118; refine (pless_g _ dims d pb A.length n c (A ++ (l' ++ B)) (n - 1) i ((n : Int) - 1) i d true p x HG.out (by omega) rfl rfl HR.out.pts (by omega) (by omega) (by have := HR.out.len; rw [List.length_append, List.length_append]; omega) (HL l' HR.out.len) hc hd hdm HP.out.2 HP.out.1 HO.out).mono ?_; rintro _ w2 ⟨rfl, hm2⟩; have HL2 := Lib.hid hm2; clear hm2) | (go_at_call 119; refine (pswap_at _ d pb A.length n c (A ++ (l' ++ B)) idx i idx i rfl rfl (TPs.mod HR.out.pts HL2.out (fun h => h)) (by omega) (by omega) (by have := HR.out.len; rw [List.length_append, List.length_append]; omega) (HL l' HR.out.len) hc).mono ?_; rintro _ w3 ⟨rfl, hk3, hm3⟩; have HK3 := Lib.hid (And.intro hk3 hm3); clear hk3 hm3))
        go_roundw
        case rel =>
          refine ⟨i + 1, idx + 1, KB.swp l' idx i, by omega, by go_num, by go_num, ⟨by rw [KB.swp_len]; exact HR.out.len, by omega, (KB.swp_perm _ _ _).trans HR.out.perm, ?_, (HR.out.mod.trans (HL2.out.mono (fun _ _ h => h.elim))).trans HK3.out.2, ?_⟩⟩
          · have e := KB.swp_mid A l' B idx i (by have := HR.out.len; omega) (by have := HR.out.len; omega)
            rw [← e]
            exact HK3.out.1
          · have h5 := HS.out
            rw [if_pos trivial] at h5
            rw [← h5]
            exact HR.out.same
        case measure => simp [intOf]; omega
    · obtain rfl : i = n - 1 := by omega
      have hcast : (((n - 1 : Nat) : Nat) : Int) = (n : Int) - 1 := by omega
      rw [hcast]
      go_wp2_with (go_at_call 119; refine (pswap_at _ d pb A.length n c (A ++ (l' ++ B)) (n - 1) idx ((n : Int) - 1) idx (by omega) rfl HR.out.pts (by omega) (by omega) (by have := HR.out.len; rw [List.length_append, List.length_append]; omega) (HL l' HR.out.len) hc).mono ?_; rintro _ w3 ⟨rfl, hk3, hm3⟩; have HK3 := Lib.hid (And.intro hk3 hm3); clear hk3 hm3)
      have hsame := HR.out.same
      rw [Nat.sub_self] at hsame
      have hfin : KB.part (leB d) l k = (KB.swp l' (n - 1) idx, idx) := by
        unfold KB.part
        rw [HK.out.2.2.1, ← hsame]
        rfl
      rw [hfin]
      have e := KB.swp_mid A l' B (n - 1) idx (by have := HR.out.len; omega) (by have := HR.out.len; omega)
      go_ret
      exact ⟨rfl, by rw [← e]; exact HK3.out.1, HR.out.mod.trans HK3.out.2⟩
end Go.Proofs.YtmeooadgdagiiaaGreat

namespace Go.Proofs.YtmeooadgdagiiaaGreat
open Go.RowKit Lox
set_option linter.unusedVariables false
attribute [local go_sem] run_store_flt run_store_fn

/-- A list of points with picks. -/
abbrev picksV (S : Value) (lc : Nat) : Value := .agg #[S, .pointer (some ⟨lc, 0, none⟩)]

theorem kmeth_len (S : Value) (lc : Nat) (w : World) : (method 279 48 (picksV S lc) "Len").run Tryz.prog w = .ok (82, picksV S lc) w := by kernel_rfl
theorem kmeth_index (S : Value) (lc : Nat) (w : World) : (method 279 48 (picksV S lc) "Index").run Tryz.prog w = .ok (81, picksV S lc) w := by kernel_rfl
theorem kmeth_slice (S : Value) (lc : Nat) (w : World) : (method 279 48 (picksV S lc) "Slice").run Tryz.prog w = .ok (84, picksV S lc) w := by kernel_rfl
theorem kmeth_pivot (S : Value) (lc : Nat) (w : World) : (method 279 48 (picksV S lc) "Pivot").run Tryz.prog w = .ok (83, picksV S lc) w := by kernel_rfl
theorem kahead_slice (S : Value) (lc : Nat) (w : World) : (nilAhead 279 48 (picksV S lc) "Slice").run Tryz.prog w = .ok (some false) w := by kernel_rfl
theorem kahead_compare (A : Option Addr) (n c : Nat) (w : World) : (nilAhead 279 50 (.slice A n c) "Compare").run Tryz.prog w = .ok (some false) w := by kernel_rfl
theorem kmeth_dims (S : Value) (w : World) : (method 279 50 S "Dims").run Tryz.prog w = .ok (100, S) w := by kernel_rfl
theorem kmeth_compare (S : Value) (w : World) : (method 279 50 S "Compare").run Tryz.prog w = .ok (99, S) w := by kernel_rfl

set_option maxHeartbeats 1000000 in
theorem klen_at (w : World) (A : Option Addr) (n c lc : Nat) :
    Calls Tryz.prog 82 #[picksV (.slice A n c) lc] w fun e w' => e = .returned (.int .i64 n) ∧ Mod (fun _ => False) w w' := by
  go_enter Tryz.func82, Tryz.ntmps82
  go_wp2
  go_ret
  exact ⟨rfl, (Mod.refl _ w).alloc _⟩

set_option maxHeartbeats 1000000 in
theorem pdims_at (w : World) (A : Option Addr) (n c : Nat) :
    Calls Tryz.prog 100 #[.slice A n c] w fun e w' => e = .returned (.int .i64 n) ∧ w = w' := by
  go_enter Tryz.func100, Tryz.ntmps100
  go_wp2
  go_ret
  exact ⟨rfl, rfl⟩

set_option maxHeartbeats 1000000 in
theorem kindex_at (w : World) (pb o n c lc i k : Nat) (I : Int) (ps : List TP) (p : TP) (hI : I = i) (hk : p.xs.length = k) (h : TPs w pb ps) (hi : i < n) (hn : n ≤ 1099511627776) (hp : ps[o + i]? = some p) :
    Calls Tryz.prog 81 #[picksV (.slice (some ⟨pb, o, none⟩) n c) lc, .int .i64 I] w fun e w' => e = .returned (.iface 50 (.slice p.A k p.c)) ∧ Mod (fun _ => False) w w' := by
  subst hI hk
  have c1 : w.cell? ⟨pb, o + i, none⟩ = some p.v := TPs.at h hp
  have lt := TPs.lt h
  unfold TP.v at c1
  have i1 : (0 : Int) ≤ i := by omega
  have i2 : (i : Int) < n := by omega
  clear h hp
  go_enter Tryz.func81, Tryz.ntmps81
  go_wp2
  go_ret
  exact ⟨rfl, (Mod.refl _ w).alloc _⟩

set_option maxHeartbeats 1000000 in
theorem kslice_at (w : World) (A : Option Addr) (n c lc i j n' c' : Nat) (I J : Int) (hI : I = i) (hJ : J = j) (hn' : n' = j - i) (hc' : c' = c - i) (hi : i ≤ j) (hj : j ≤ n) (hn : n ≤ c) (hc : c ≤ 9223372036854775807) :
    Calls Tryz.prog 84 #[picksV (.slice A n c) lc, .int .i64 I, .int .i64 J] w fun e w' => (∃ A', e = .returned (.iface 48 (picksV (.slice A' n' c') lc)) ∧ (i < j → ∀ b o, A = some ⟨b, o, none⟩ → A' = some ⟨b, o + i, none⟩)) ∧ Mod (fun _ => False) w w' := by
  subst hI hJ hn' hc'
  go_enter Tryz.func84, Tryz.ntmps84
  go_wp2
  go_quiet (fail)
  go_wp2
  all_goals
    go_ret
    refine ⟨⟨_, rfl, fun hij b o e => ?_⟩, ⟨rfl, rfl, rfl, by simp [World.drewN], fun k hk _ => Below.heap_alloc _ _ _ hk⟩⟩
    subst e
    first | omega | (show some ((⟨b, o, none⟩ : Addr).add i) = _; rw [addr_lit])

/-- The picks' variable: what picks are left. -/
def PK (w : World) (lc pb : Nat) (ks : List Nat) : Prop :=
  ∃ (A : Option Addr) (c : Nat), Blk w lc 23 [.slice A ks.length c] ∧ Sl w A ks.length 1 (ints (ks.map Int.ofNat)) ∧ ks.length ≤ c ∧ c ≤ 9223372036854775807 ∧ (∀ k ∈ ks, k ≤ 9223372036854775807) ∧
    (0 < ks.length → ∀ b o, A = some ⟨b, o, none⟩ → b ≠ pb ∧ b ≠ lc)

theorem PK.mod {w w' : World} {lc pb : Nat} {ks : List Nat} {S : Nat → Prop} (h : PK w lc pb ks) (hm : Mod S w w') (hS : ∀ k, S k → k = pb) (hne : lc ≠ pb) : PK w' lc pb ks := by
  obtain ⟨A, c, hb, hs, h1, h2, h3, h4⟩ := h
  refine ⟨A, c, hb.mod hm (fun h => hne (hS _ h)), ⟨hs.1, fun h0 => ?_⟩, h1, h2, h3, h4⟩
  obtain ⟨b, o, e, hc⟩ := hs.2 h0
  exact ⟨b, o, e, fun j v hv => (hm.cell (lt_of_cell (hc j v hv)) (fun h => (h4 h0 b o e).1 (hS _ h))).trans (hc j v hv)⟩

theorem pick_mod (x n : Nat) (h0 : 0 < n) (hn : n ≤ 1099511627776) : (wrap64 ((x : Int) % (n : Int) + (n : Int))).tmod (n : Int) = ((x % n : Nat) : Int) := by
  have h1 : x % n < n := Nat.mod_lt _ h0
  have e1 : (x : Int) % (n : Int) = ((x % n : Nat) : Int) := by simp
  rw [e1]
  have e2 : wrap64 (((x % n : Nat) : Int) + (n : Int)) = ((x % n + n : Nat) : Int) := by unfold wrap64; omega
  rw [e2, ← Int.ofNat_tmod]
  simp

theorem pk_next {w w' : World} {lc pb x b o pc : Nat} {ks : List Nat} {A' : Option Addr} (hs : Sl w (some ⟨b, o, none⟩) (x :: ks).length 1 (ints ((x :: ks).map Int.ofNat))) (hW : Blk w' lc 23 [.slice A' ks.length (pc - 1)])
    (hm : Mod (fun k => k = pb ∨ k = lc) w w') (hA : 0 < ks.length → A' = some ⟨b, o + 1, none⟩) (h1 : ks.length + 1 ≤ pc) (h2 : pc ≤ 9223372036854775807) (h3 : ∀ k ∈ x :: ks, k ≤ 9223372036854775807)
    (h4 : ∀ b' o', some (⟨b, o, none⟩ : Addr) = some ⟨b', o', none⟩ → b' ≠ pb ∧ b' ≠ lc) : PK w' lc pb ks := by
  refine ⟨A', pc - 1, hW, ⟨by simp [ints], fun h0 => ?_⟩, by omega, by omega, fun k hk => h3 k (by simp [hk]), fun h0 b' o' e => ?_⟩
  · obtain ⟨b1, o1, e, hc⟩ := hs.2 (by simp)
    cases e
    obtain ⟨g1, g2⟩ := h4 b o rfl
    refine ⟨b, o + 1, hA h0, fun j v hv => ?_⟩
    have := hc (j + 1) v (by simpa [ints] using hv)
    rw [show o + 1 + j = o + (j + 1) by omega]
    exact (hm.cell (lt_of_cell this) (by rintro (h | h); exact g1 h; exact g2 h)).trans this
  · rw [hA h0] at e
    cases e
    exact h4 b o rfl

set_option maxRecDepth 100000 in
set_option maxHeartbeats 4000000 in
theorem kpivot_at (w : World) (dims d pb n c lc : Nat) (D : Int) (A l B : List TP) (ks : List Nat) (hD : D = d) (h : TPs w pb (A ++ (l ++ B))) (ho : ∀ p ∈ l, p.Okp w dims pb) (hk : PK w lc pb ks) (hne : lc ≠ pb) (hn : l.length = n) (hn0 : 0 < n) (hl : (A ++ (l ++ B)).length ≤ 1099511627776) (hc : n ≤ c) (hd : d < dims) (hdm : dims ≤ 1099511627776) (hf : ∀ p ∈ l, ∀ b o, p.A = some ⟨b, o, none⟩ → b ≠ lc) :
    Calls Tryz.prog 83 #[picksV (.slice (some ⟨pb, A.length, none⟩) n c) lc, .int .i64 D] w fun e w' => e = .returned (.int .i64 ((KB.part (leB d) l (KB.pick n ks).1).2 : Nat)) ∧ TPs w' pb (A ++ ((KB.part (leB d) l (KB.pick n ks).1).1 ++ B)) ∧ PK w' lc pb (KB.pick n ks).2 ∧ Mod (fun k => k = pb ∨ k = lc) w w' := by
  subst hD
  have hb0 : (0 : Int) < n := by omega
  have hb1 : (n : Int) ≤ 1099511627776 := by have h5 := hl; rw [List.length_append, List.length_append, hn] at h5; omega
  have HK := Lib.hid (And.intro h (And.intro ho (And.intro hn (And.intro hl hf))))
  clear h ho hn hl hf
  obtain ⟨PA, pc, hb, hs, h1, h2, h3, h4⟩ := hk
  have clc := hb.at (i := 0) rfl
  have flc := hb.frozen 0
  have llc := hb.lt
  have HP := Lib.hid (And.intro hb (And.intro hs h4))
  clear hb hs h4
  have PART : ∀ (w1 : World) (k : Nat) (K : Int), K = k → k < n → Mod (fun k => k = lc) w w1 →
      Calls Tryz.prog 86 #[.iface 166 (planeV d (.slice (some ⟨pb, A.length, none⟩) n c)), .int .i64 K] w1 fun e w' => e = .returned (.int .i64 ((KB.part (leB d) l k).2 : Nat)) ∧ TPs w' pb (A ++ ((KB.part (leB d) l k).1 ++ B)) ∧ Mod (fun k => k = pb) w1 w' := by
    intro w1 k K hK hk hm
    obtain ⟨q1, q2, q3, q4, q5⟩ := HK.out
    exact part_at w1 dims d pb n c k d K A l B rfl hK (TPs.mod q1 hm (fun h => hne h.symm)) (fun p hp => (q2 p hp).mod hm (q5 p hp)) q3 hk q4 hc hd hdm
  have HPART := Lib.hid PART
  clear PART
  cases ks with
  | nil =>
    have h1' := h1
    have h2' := h2
    clear h3 h1 h2
    have e0 : ([] : List Nat).length = 0 := rfl
    rw [e0] at clc
    go_enter Tryz.func83, Tryz.ntmps83
    go_wp2_with (go_at_call 86; refine (HPART.out _ (n / 2) _ (by omega) (by omega) ((Mod.refl _ _).alloc _)).mono ?_; rintro _ w1 ⟨rfl, ht, hm⟩; have HT := Lib.hid (And.intro ht hm); clear ht hm)
    go_ret
    have e1 : KB.pick n [] = (n / 2, []) := rfl
    rw [e1]
    have hm1 : Mod (fun k => k = pb) w w1 := (((Mod.refl _ _).alloc _).trans HT.out.2)
    exact ⟨rfl, HT.out.1, PK.mod ⟨PA, pc, HP.out.1, HP.out.2.1, h1', h2', (fun k hk => by cases hk), HP.out.2.2⟩ hm1 (fun _ h => h) hne, hm1.mono (fun _ _ h => .inl h)⟩
  | cons x ks =>
    obtain ⟨m, hm⟩ : ∃ m, m = ks.length := ⟨_, rfl⟩
    rw [List.length_cons, ← hm] at clc h1
    obtain ⟨b, o, e, hcell⟩ := HP.out.2.1.2 (by simp)
    have cx := hcell 0 (.int .i64 x) rfl
    rw [Nat.add_zero] at cx
    have hx := h3 x (by simp)
    have lcx := lt_of_cell cx
    have hmo : 0 < m + 1 := by omega
    subst e
    have HM := Lib.hid (And.intro hm h3)
    clear hm h3 hcell
    by_cases hpc : pc = 1
    · subst hpc
      go_enter Tryz.func83, Tryz.ntmps83
      go_wp2_with fail
      go_region
      rw [pick_mod x n (by omega) (by omega)]
      obtain rfl : m = 0 := by omega
      have hW := ((HP.out.1.set 0 (Value.slice (some { block := b, off := o }) 0 0)).alloc (Obj.cells #[Value.slice (some { block := pb, off := A.length }) n c, Value.pointer (some { block := lc, off := 0 })] 48)).drew
      have hM := (((Mod.refl (fun k => k = lc) w).set (p := ⟨lc, 0, none⟩) (Or.inl rfl) (Value.slice (some { block := b, off := o }) 0 0)).alloc (Obj.cells #[Value.slice (some { block := pb, off := A.length }) n c, Value.pointer (some { block := lc, off := 0 })] 48)).drew
      have HW := Lib.hid (And.intro hW hM)
      clear hW hM
      go_wp2_with (go_at_call 86; refine (HPART.out _ (x % n) _ rfl (Nat.mod_lt _ (by omega)) HW.out.2).mono ?_; rintro _ w1 ⟨rfl, ht, hm⟩; have HT := Lib.hid (And.intro ht hm); clear ht hm)
      go_ret
      have e1 : KB.pick n (x :: ks) = (x % n, ks) := rfl
      rw [e1]
      have hm1 : Mod (fun k => k = pb ∨ k = lc) w w1 := (HW.out.2.mono (fun _ _ h => .inr h)).trans (HT.out.2.mono (fun _ _ h => .inl h))
      have hk0 := HM.out.1
      refine ⟨rfl, HT.out.1, ?_, hm1⟩
      show PK w1 lc pb ks
      refine pk_next (pc := 1) (A' := some ⟨b, o, none⟩) HP.out.2.1 ?_ hm1 (fun h => by omega) (by omega) (by omega) HM.out.2 (fun b' o' e => HP.out.2.2 (by simp) b' o' e)
      rw [← hk0]
      exact HW.out.1.mod HT.out.2 hne
    · have p1 : (1 : Int) ≤ pc := by omega
      have p2 : (pc : Int) ≠ 1 := by omega
      go_enter Tryz.func83, Tryz.ntmps83
      go_wp2_with fail
      go_region
      rw [pick_mod x n (by omega) (by omega)]
      have hW := ((HP.out.1.set 0 (Value.slice (some { block := b, off := o + 1 }) m (pc - 1))).alloc (Obj.cells #[Value.slice (some { block := pb, off := A.length }) n c, Value.pointer (some { block := lc, off := 0 })] 48)).drew
      have hM := (((Mod.refl (fun k => k = lc) w).set (p := ⟨lc, 0, none⟩) (Or.inl rfl) (Value.slice (some { block := b, off := o + 1 }) m (pc - 1))).alloc (Obj.cells #[Value.slice (some { block := pb, off := A.length }) n c, Value.pointer (some { block := lc, off := 0 })] 48)).drew
      have HW := Lib.hid (And.intro hW hM)
      clear hW hM
      go_wp2_with (go_at_call 86; refine (HPART.out _ (x % n) _ rfl (Nat.mod_lt _ (by omega)) HW.out.2).mono ?_; rintro _ w1 ⟨rfl, ht, hm⟩; have HT := Lib.hid (And.intro ht hm); clear ht hm)
      go_ret
      have e1 : KB.pick n (x :: ks) = (x % n, ks) := rfl
      rw [e1]
      have hm1 : Mod (fun k => k = pb ∨ k = lc) w w1 := (HW.out.2.mono (fun _ _ h => .inr h)).trans (HT.out.2.mono (fun _ _ h => .inl h))
      have hk0 := HM.out.1
      refine ⟨rfl, HT.out.1, ?_, hm1⟩
      show PK w1 lc pb ks
      refine pk_next (pc := pc) (A' := some ⟨b, o + 1, none⟩) HP.out.2.1 ?_ hm1 (fun h => rfl) (by omega) (by omega) HM.out.2 (fun b' o' e => HP.out.2.2 (by simp) b' o' e)
      rw [← hk0]
      exact HW.out.1.mod HT.out.2 hne
end Go.Proofs.YtmeooadgdagiiaaGreat

namespace Go.Proofs.YtmeooadgdagiiaaGreat
open Go.RowKit Lox
set_option linter.unusedVariables false

/-- A box of a node: its block, its least and its greatest point. -/
structure BX where
  g : Nat
  mn : TP
  mx : TP

/-- A tree as it lies in memory: of each node its block, its point, its plane, its box. -/
inductive MT where
  | nil
  | node (g : Nat) (p : TP) (d : Nat) (bx : Option BX) (l r : MT)

def MT.T : MT → KB.T TP
  | .nil => .nil
  | .node _ p d _ l r => .node p d l.T r.T

/-- The nodes' blocks. -/
def MT.gs : MT → List Nat
  | .nil => []
  | .node g _ _ _ l r => g :: (l.gs ++ r.gs)

/-- No node has a box. -/
def MT.bare : MT → Prop
  | .nil => True
  | .node _ _ _ bx l r => bx = none ∧ l.bare ∧ r.bare

def boxV : Option BX → Value
  | none => .pointer none
  | some x => .pointer (some ⟨x.g, 0, none⟩)

/-- What stands in a node's block. -/
def nodeCells (p : TP) (d : Nat) (lv rv : Value) (bx : Option BX) : List Value := [.iface 50 p.v, .int .i64 d, lv, rv, boxV bx]

/-- In world w, at v, such a tree stands. -/
def MT.In (w : World) : MT → Value → Prop
  | .nil, v => v = .pointer none
  | .node g p d bx l r, v => v = .pointer (some ⟨g, 0, none⟩) ∧ ∃ lv rv, Blk w g 84 (nodeCells p d lv rv bx) ∧ l.In w lv ∧ r.In w rv

theorem MT.In.ptr {w : World} {t : MT} {v : Value} (h : t.In w v) : ∃ q, v = .pointer q := by
  cases t with
  | nil => exact ⟨_, h⟩
  | node g p d bx l r => exact ⟨_, h.1⟩

theorem MT.In.keep {w w' : World} : ∀ {t : MT} {v : Value}, t.In w v → (∀ k ∈ t.gs, k < w.heap.size → w'.heap[k]? = w.heap[k]?) → t.In w' v := by
  intro t
  induction t with
  | nil => intro v h _; exact h
  | node g p d bx l r ihl ihr =>
    intro v h hk
    obtain ⟨e, lv, rv, hb, hl, hr⟩ := h
    refine ⟨e, lv, rv, ?_, ihl hl fun k hm => hk k (by simp [MT.gs, hm]), ihr hr fun k hm => hk k (by simp [MT.gs, hm])⟩
    have := hk g (by simp [MT.gs]) hb.lt
    unfold Blk at *
    rw [this, hb]

theorem MT.In.lt {w : World} : ∀ {t : MT} {v : Value}, t.In w v → ∀ k ∈ t.gs, k < w.heap.size := by
  intro t
  induction t with
  | nil => intro v h k hk; cases hk
  | node g p d bx l r ihl ihr =>
    intro v h k hk
    obtain ⟨e, lv, rv, hb, hl, hr⟩ := h
    rcases List.mem_cons.1 hk with rfl | hk
    · exact hb.lt
    · rcases List.mem_append.1 hk with hk | hk
      · exact ihl hl k hk
      · exact ihr hr k hk

theorem MT.In.mod {w w' : World} {t : MT} {v : Value} {S : Nat → Prop} (h : t.In w v) (hm : Mod S w w') (hS : ∀ k ∈ t.gs, ¬ S k) : t.In w' v :=
  h.keep fun k hk hl => hm.block k hl (hS k hk)

/-- A block in which no float number stands. -/
def NoFlt (w : World) (k : Nat) : Prop := ∀ o x, w.cell? ⟨k, o, none⟩ ≠ some (.float .f64 x)

theorem MT.In.noFlt {w : World} : ∀ {t : MT} {v : Value}, t.In w v → ∀ k ∈ t.gs, NoFlt w k := by
  intro t
  induction t with
  | nil => intro v h k hk; cases hk
  | node g p d bx l r ihl ihr =>
    intro v h k hk
    obtain ⟨e, lv, rv, hb, hl, hr⟩ := h
    rcases List.mem_cons.1 hk with rfl | hk
    · intro o x hc
      rw [hb.cell] at hc
      obtain ⟨q1, rfl⟩ := hl.ptr
      obtain ⟨q2, rfl⟩ := hr.ptr
      have hm := List.mem_of_getElem? hc
      unfold nodeCells boxV at hm
      cases bx <;> simp at hm
    · rcases List.mem_append.1 hk with hk | hk
      · exact ihl hl k hk
      · exact ihr hr k hk

/-- A point of a coordinate at least is as it was where only blocks without numbers have turned. -/
theorem TP.Ok.noFlt {w w' : World} {dims : Nat} {S : Nat → Prop} {p : TP} (h : p.Ok w dims) (hm : Mod S w w') (hS : ∀ k, k < w.heap.size → S k → NoFlt w k) : p.Ok w' dims := by
  refine ⟨h.1, h.2.1, fun h0 => ?_⟩
  obtain ⟨b, o, e, hc⟩ := h.2.2 h0
  refine ⟨b, o, e, fun j v hv => ?_⟩
  have hcj := hc j v hv
  refine (hm.cell (lt_of_cell hcj) (fun hs => ?_)).trans hcj
  have hv' : ∃ x, v = .float .f64 x := by
    have hm' := List.mem_of_getElem? hv
    obtain ⟨x, _, rfl⟩ := List.mem_map.1 hm'
    exact ⟨x, rfl⟩
  obtain ⟨x, rfl⟩ := hv'
  exact hS b (lt_of_cell hcj) hs (o + j) x hcj

/-- The points of a tree. -/
def MT.pts : MT → List TP
  | .nil => []
  | .node _ p _ _ l r => l.pts ++ p :: r.pts

theorem MT.pts_all : ∀ t : MT, t.pts = t.T.all := by
  intro t
  induction t with
  | nil => rfl
  | node g p d bx l r ihl ihr => simp only [MT.pts, MT.T, KB.T.all, ihl, ihr]
end Go.Proofs.YtmeooadgdagiiaaGreat
