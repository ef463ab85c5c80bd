/- Steps of a proof, one behind another: sort.Sort over the distances and the points beside them. A vantage-point tree as it is built, in plain Lean: its points, how they are parted, its radii. Vantage-point trees as New makes them, in memory. Rows of nodes that the thin package writes a vantage-point tree down in. The walks of withNumber and SquaresTo. The walk of SquaresTo. The walks of Abs and IsInf. Conditions: a finite number. The walk in order through a tree that is written down as two lists of numbers: what it is, in plain Lean. The shape of a tree that is written down as two lists of numbers, and that the reference's walk says yes to it. Conditions: as each theorem says. -/
import Derived.Test.YtpamoleocjdjiaaDoorMv6

namespace Go.Proofs.YtpamoleocjdjiaaDoor
open Go.RowKit Lox Go.Sort
set_option linter.unusedVariables false

/-- A point with its distance. -/
abbrev DP := Nat × TP

instance : Inhabited TP := ⟨⟨none, 0, []⟩⟩

def ltD (a b : DP) : Bool := decide (fk a.1 < fk b.1)

theorem swo_ltD : SWO ltD where
  irrefl := fun x => by simp [ltD]
  trans := fun x y z => by simp only [ltD, decide_eq_true_eq]; omega
  ntrans := fun x y z => by simp only [ltD, decide_eq_false_iff_not]; omega

/-- The world holds these pairs. -/
structure BSt (wb pb n H : Nat) (A B : List TP) (C : List Nat) (w : World) (d : Array DP) : Prop where
  size : d.size = n
  wk : Wks w wb (d.toList.map (·.1) ++ C)
  vp : VPs w pb (A ++ (d.toList.map (·.2) ++ B))
  fin : ∀ x ∈ d.toList, Lox.Fin x.1
  low : H ≤ w.heap.size

theorem dget (d : Array DP) (i : Nat) (hi : i < d.size) : d.toList[i]? = some d[i]! := by
  rw [Array.getElem?_toList, getElem!_pos d i hi, Array.getElem?_eq_getElem hi]

theorem dswp (d : Array DP) (i j : Nat) (hi : i < d.size) (hj : j < d.size) : (swp d i j).toList = KB.swp d.toList i j := by
  rw [vswp_set (dget d i hi) (dget d j hj)]
  unfold swp
  rw [Array.toList_setIfInBounds, Array.toList_setIfInBounds]

theorem kswp_map {α β : Type} (f : α → β) (l : List α) (i j : Nat) : (KB.swp l i j).map f = KB.swp (l.map f) i j := by
  unfold KB.swp
  rw [List.getElem?_map, List.getElem?_map]
  cases l[i]? <;> cases l[j]? <;> simp

theorem kswp_mid {α : Type} (A l B : List α) (i j : Nat) (hi : i < l.length) (hj : j < l.length) : KB.swp (A ++ (l ++ B)) (A.length + i) (A.length + j) = A ++ (KB.swp l i j ++ B) := by
  have g : ∀ k, k < l.length → (A ++ (l ++ B))[A.length + k]? = l[k]? := fun k hk => by
    rw [List.getElem?_append_right (by omega), Nat.add_sub_cancel_left, List.getElem?_append_left hk]
  have e1 : l[i]? = some l[i] := List.getElem?_eq_getElem hi
  have e2 : l[j]? = some l[j] := List.getElem?_eq_getElem hj
  rw [vswp_set ((g i hi).trans e1) ((g j hj).trans e2), vswp_set e1 e2]
  rw [List.set_append_right _ _ (by omega), Nat.add_sub_cancel_left, List.set_append_left _ _ hi, List.set_append_right _ _ (by omega), Nat.add_sub_cancel_left, List.set_append_left _ _ (by rw [List.length_set]; exact hj)]

theorem kswp_tail {α : Type} (l C : List α) (i j : Nat) (hi : i < l.length) (hj : j < l.length) : KB.swp (l ++ C) i j = KB.swp l i j ++ C := by
  have := kswp_mid [] l C i j hi hj
  simpa using this

theorem find_bless (a b : Value) (w : World) : (method 308 158 (.agg #[a, b]) "Less").run Tryd.prog w = .ok (126, .agg #[a, b]) w := by kernel_rfl
theorem find_bswap (a b : Value) (w : World) : (method 308 158 (.agg #[a, b]) "Swap").run Tryd.prog w = .ok (127, .agg #[a, b]) w := by kernel_rfl
theorem find_blen (a b : Value) (w : World) : (method 308 158 (.agg #[a, b]) "Len").run Tryd.prog w = .ok (125, .agg #[a, b]) w := by kernel_rfl

theorem srt_by (wb pb n c1 c2 H : Nat) (A B : List TP) (C : List Nat) (hne : wb ≠ pb) (hw : wb < H) (hp : pb < H) (hn : A.length + n ≤ 1099511627776) :
    Srt 158 (byV wb pb A.length n c1 c2) (byV wb pb A.length n c1 c2) (byV wb pb A.length n c1 c2) 126 127 ltD n H (fun k => k = pb ∨ k = wb) (BSt wb pb n H A B C) where
  findL := fun w d h => find_bless _ _ w
  findS := fun w d h => find_bswap _ _ w
  enterL := enters_of Tryd.func126 (by kernel_rfl) rfl
  enterS := enters_of Tryd.func127 (by kernel_rfl) rfl
  size := fun w d h => h.size
  most := by omega
  keep := fun w w' d hm h => ⟨h.size, h.wk.mod hm (by omega), h.vp.mod hm (by omega), h.fin, Nat.le_trans h.low hm.size⟩
  low := fun w d h => h.low
  less := fun w d i j h hi hj hij => by
    have hi' : i < d.size := by rw [h.size]; exact hi
    have hj' : j < d.size := by rw [h.size]; exact hj
    have e1 := dget d i hi'
    have e2 := dget d j hj'
    exact bless_at w wb pb A.length n c1 c2 i j d[i]!.1 d[j]!.1 _ h.wk hi hj (by rw [List.getElem?_append_left (by simpa using hi'), List.getElem?_map, e1]; rfl) (by rw [List.getElem?_append_left (by simpa using hj'), List.getElem?_map, e2]; rfl) (h.fin _ (List.mem_of_getElem? e1)) (h.fin _ (List.mem_of_getElem? e2)) (by omega)
  swap := fun w d i j h hi hj => by
    have hi' : i < d.size := by rw [h.size]; exact hi
    have hj' : j < d.size := by rw [h.size]; exact hj
    have hl : d.toList.length = n := by rw [Array.length_toList, h.size]
    refine (bswap_at w wb pb A.length n c1 c2 i j _ _ h.wk h.vp hne hi hj (by rw [List.length_append, List.length_map, hl]; exact Nat.le_add_right _ _) (by simp [hl]) hn).mono ?_
    rintro e w' ⟨rfl, h1, h2, h3⟩
    have hs := dswp d i j hi' hj'
    refine ⟨rfl, ⟨?_, ?_, ?_, ?_, Nat.le_trans h.low h3.size⟩, h3⟩
    · have h4 := congrArg List.length hs
      rw [vswp_set (dget d i hi') (dget d j hj'), List.length_set, List.length_set, Array.length_toList, Array.length_toList, h.size] at h4
      exact h4
    · rw [hs, kswp_map, ← kswp_tail _ C i j (by rw [List.length_map, hl]; exact hi) (by rw [List.length_map, hl]; exact hj)]; exact h1
    · rw [hs, kswp_map, ← kswp_mid A _ B i j (by rw [List.length_map, hl]; exact hi) (by rw [List.length_map, hl]; exact hj)]; exact h2
    · intro x hx
      rw [hs, vswp_set (dget d i hi') (dget d j hj')] at hx
      rcases List.mem_or_eq_of_mem_set hx with hx | rfl
      · rcases List.mem_or_eq_of_mem_set hx with hx | rfl
        · exact h.fin x hx
        · exact h.fin _ (List.mem_of_getElem? (dget d j hj'))
      · exact h.fin _ (List.mem_of_getElem? (dget d i hi'))
  far := fun k hk => by rcases hk with rfl | rfl <;> assumption

theorem bsort_at (w : World) (wb pb n c1 c2 : Nat) (A B : List TP) (C : List Nat) (ds : List DP) (hne : wb ≠ pb) (hw : Wks w wb (ds.map (·.1) ++ C)) (hp : VPs w pb (A ++ (ds.map (·.2) ++ B))) (hl : ds.length = n) (hf : ∀ x ∈ ds, Lox.Fin x.1) (hn : n < 65536) (hA : A.length + n ≤ 1099511627776) :
    Calls Tryd.prog 51 #[.iface 158 (byV wb pb A.length n c1 c2)] w fun e w' => e = .returned (.tuple #[]) ∧ ∃ ds' : List DP, ds'.Perm ds ∧ ds'.Pairwise (fun a b => fk a.1 ≤ fk b.1) ∧ Wks w' wb (ds'.map (·.1) ++ C) ∧ VPs w' pb (A ++ (ds'.map (·.2) ++ B)) ∧ Mod (fun k => k = pb ∨ k = wb) w w' := by
  refine (sort_at (srt_by wb pb n c1 c2 w.heap.size A B C hne hw.lt hp.lt hA) swo_ltD hn 125 (byV wb pb A.length n c1 c2) (fun w d h => find_blen _ _ w)
    (enters_of Tryd.func125 (by kernel_rfl) rfl) (fun w d h => blen_at w wb pb A.length n c1 c2 (by omega))
    ds.toArray w ⟨by simpa using hl, by simpa using hw, by simpa using hp, by simpa using hf, Nat.le_refl _⟩).mono fun e w' ⟨he, d', hpm, hs, hS⟩ => ⟨he, d'.toList, ?_, ?_, hS.1.wk, hS.1.vp, hS.2⟩
  · have h1 := hpm.2.2
    have h2 : d'.size = n := hS.1.size
    rw [Array.extract_eq_self_of_le (by rw [h2]; exact Nat.le_refl _), Array.extract_eq_self_of_le (by simp [hl])] at h1
    exact h1
  · refine List.pairwise_iff_getElem.2 fun i j hi hj hij => ?_
    have h3 := hs i j (Nat.zero_le _) hij (by have := hS.1.size; rw [Array.length_toList] at hj; omega)
    rw [Array.length_toList] at hi hj
    rw [getElem!_pos d' i hi, getElem!_pos d' j hj] at h3
    simp only [ltD, decide_eq_false_iff_not] at h3
    simp only [Array.getElem_toList]
    omega
end Go.Proofs.YtpamoleocjdjiaaDoor

namespace Lox.VB
set_option linter.unusedVariables false

inductive T (α : Type) where
  | nil
  | node (p : α) (r : Nat) (l g : T α)

variable {α κ : Type}

def T.pts : T α → List α
  | .nil => []
  | .node p _ l g => l.pts ++ p :: g.pts

def T.map {β : Type} (f : α → β) : T α → T β
  | .nil => .nil
  | .node p r l g => .node (f p) r (l.map f) (g.map f)

theorem T.map_pts {β : Type} (f : α → β) : ∀ t : T α, (t.map f).pts = t.pts.map f := by
  intro t
  induction t with
  | nil => rfl
  | node p r l g ihl ihg => simp [T.map, T.pts, ihl, ihg]

/-- How a tree is built of points: a point of them is chosen; the rest is put in the order of its distances. -/
inductive Built (sq : α → α → Int) : List α → T α → Prop where
  | nil : Built sq [] .nil
  | one (p : α) : Built sq [p] (.node p 0 .nil .nil)
  | more (ps qs : List α) (v m : α) (r : Nat) (l g : T α) : 2 ≤ ps.length → v ∈ ps → qs.Perm ps → qs.Pairwise (fun a b => sq v a ≤ sq v b) → qs[ps.length / 2]? = some m → Dst r (sq v m) →
      Built sq ((qs.take (ps.length / 2)).drop 1) l → Built sq (qs.drop (ps.length / 2)) g → Built sq ps (.node v r l g)

/-- What is asked of squares. -/
structure Sqs (ok : α → Prop) (key : α → κ) (sq : α → α → Int) : Prop where
  self : ∀ a, ok a → sq a a = 0
  pos : ∀ a b, ok a → ok b → 0 ≤ sq a b
  same : ∀ a b, ok a → ok b → sq a b = 0 → key a = key b
  cong : ∀ a b c, ok a → ok b → ok c → key b = key c → sq a b = sq a c

theorem first_same {ok : α → Prop} {key : α → κ} {sq : α → α → Int} (h : Sqs ok key sq) {v q : α} {qs : List α} (hok : ∀ a ∈ q :: qs, ok a) (hv : v ∈ q :: qs) (hup : (q :: qs).Pairwise (fun a b => sq v a ≤ sq v b)) : key v = key q := by
  have ov := hok v hv
  have oq := hok q (List.mem_cons_self ..)
  refine h.same v q ov oq ?_
  have h1 := h.pos v q ov oq
  have h2 : sq v q ≤ sq v v := by
    rcases List.mem_cons.1 hv with rfl | hv
    · exact Int.le_refl _
    · exact (List.pairwise_cons.1 hup).1 v hv
  rw [h.self v ov] at h2
  omega

theorem cut_list {qs : List α} {k : Nat} {q : α} {rest : List α} (e : qs = q :: rest) (hk : 0 < k) : q :: ((qs.take k).drop 1 ++ qs.drop k) = qs := by
  subst e
  obtain ⟨k, rfl⟩ : ∃ j, k = j + 1 := ⟨k - 1, by omega⟩
  simp

theorem built_pts {ok : α → Prop} {key : α → κ} {sq : α → α → Int} (h : Sqs ok key sq) {ps : List α} {t : T α} (hb : Built sq ps t) : (∀ a ∈ ps, ok a) → (t.pts.map key).Perm (ps.map key) := by
  induction hb with
  | nil => intro _; exact List.Perm.refl _
  | one p => intro _; exact List.Perm.refl _
  | more ps qs v m r l g h2 hv hp hup hm hr hl hg ihl ihg =>
    intro hok
    have hlen := hp.length_eq
    have hokq : ∀ a ∈ qs, ok a := fun a ha => hok a (hp.mem_iff.1 ha)
    obtain ⟨q, rest, e⟩ : ∃ q rest, qs = q :: rest := by
      cases qs with
      | nil => simp at hlen; omega
      | cons q rest => exact ⟨q, rest, rfl⟩
    have hc := cut_list e (k := ps.length / 2) (by omega)
    have hkv : key v = key q := first_same h (by rw [← e]; exact hokq) (by rw [← e]; exact hp.mem_iff.2 hv) (by rw [← e]; exact hup)
    have il := ihl fun a ha => hokq a (List.mem_of_mem_take (List.mem_of_mem_drop ha))
    have ig := ihg fun a ha => hokq a (List.mem_of_mem_drop ha)
    rw [T.pts, List.map_append, List.map_cons]
    refine List.Perm.trans ?_ (hp.map key)
    rw [← hc, List.map_cons, List.map_append, ← hkv]
    exact List.perm_middle.trans ((il.append ig).cons _)

theorem built_len {ok : α → Prop} {key : α → κ} {sq : α → α → Int} (h : Sqs ok key sq) {ps : List α} {t : T α} (hb : Built sq ps t) (hok : ∀ a ∈ ps, ok a) : t.pts.length = ps.length := by
  have := (built_pts h hb hok).length_eq
  rw [List.length_map, List.length_map] at this
  exact this

theorem key_mem {ok : α → Prop} {key : α → κ} {sq : α → α → Int} (h : Sqs ok key sq) {ps : List α} {t : T α} (hb : Built sq ps t) (hok : ∀ a ∈ ps, ok a) {x : α} (hx : x ∈ t.pts) : ∃ y ∈ ps, key y = key x := by
  obtain ⟨y, hy, e⟩ := List.mem_map.1 ((built_pts h hb hok).mem_iff.1 (List.mem_map.2 ⟨x, hx, rfl⟩))
  exact ⟨y, hy, e⟩

/-- What holds at a node. -/
def NodeOk (sq : α → α → Int) (p : α) (r : Nat) (l g : T α) : Prop :=
  (1 + l.pts.length + g.pts.length = 1 → r = 0) ∧
  (1 < 1 + l.pts.length + g.pts.length → g.pts.length = (1 + l.pts.length + g.pts.length) - (1 + l.pts.length + g.pts.length) / 2 ∧
    ∃ s, Dst r s ∧ (∃ x ∈ g.pts, sq p x = s) ∧ (∀ x ∈ g.pts, s ≤ sq p x) ∧ ∀ x ∈ l.pts, sq p x ≤ s)

def T.Each (P : α → Nat → T α → T α → Prop) : T α → Prop
  | .nil => True
  | .node p r l g => P p r l g ∧ l.Each P ∧ g.Each P

theorem built_nodes {ok : α → Prop} {key : α → κ} {sq : α → α → Int} (h : Sqs ok key sq) {ps : List α} {t : T α} (hb : Built sq ps t) : (∀ a ∈ ps, ok a) → (∀ a ∈ t.pts, ok a) → t.Each (NodeOk sq) := by
  induction hb with
  | nil => intro _ _; trivial
  | one p => intro _ _; exact ⟨⟨fun _ => rfl, fun h => absurd h (by simp [T.pts])⟩, trivial, trivial⟩
  | more ps qs v m r l g h2 hv hp hup hm hr hl hg ihl ihg =>
    intro hok hokt
    have hlen := hp.length_eq
    have hokq : ∀ a ∈ qs, ok a := fun a ha => hok a (hp.mem_iff.1 ha)
    have okl : ∀ a ∈ (qs.take (ps.length / 2)).drop 1, ok a := fun a ha => hokq a (List.mem_of_mem_take (List.mem_of_mem_drop ha))
    have okg : ∀ a ∈ qs.drop (ps.length / 2), ok a := fun a ha => hokq a (List.mem_of_mem_drop ha)
    have otl : ∀ a ∈ l.pts, ok a := fun a ha => hokt a (by simp [T.pts, ha])
    have otg : ∀ a ∈ g.pts, ok a := fun a ha => hokt a (by simp [T.pts, ha])
    have ll := built_len h hl okl
    have lg := built_len h hg okg
    rw [List.length_drop, List.length_take] at ll
    rw [List.length_drop] at lg
    have hmi : ps.length / 2 < qs.length := by omega
    have ov := hok v hv
    have om : ok m := hokq m (List.mem_of_getElem? hm)
    have hmd : (qs.drop (ps.length / 2))[0]? = some m := by rw [List.getElem?_drop, Nat.add_zero]; exact hm
    have hpw := List.pairwise_iff_getElem.1 hup
    obtain ⟨hmi', em⟩ := List.getElem?_eq_some_iff.1 hm
    refine ⟨⟨fun h => by omega, fun _ => ⟨by omega, sq v m, hr, ?_, ?_, ?_⟩⟩, ihl okl otl, ihg okg otg⟩
    · obtain ⟨x, hx, e⟩ : ∃ x ∈ g.pts, key x = key m := by
        obtain ⟨x, hx, e⟩ := List.mem_map.1 ((built_pts h hg okg).mem_iff.2 (List.mem_map.2 ⟨m, List.mem_of_getElem? hmd, rfl⟩))
        exact ⟨x, hx, e⟩
      exact ⟨x, hx, h.cong v x m ov (otg x hx) om e⟩
    · intro x hx
      obtain ⟨y, hy, e⟩ := key_mem h hg okg hx
      rw [h.cong v x y ov (otg x hx) (okg y hy) e.symm]
      obtain ⟨i, hi, ei⟩ := List.getElem_of_mem hy
      rw [List.getElem_drop] at ei
      rw [List.length_drop] at hi
      rw [← ei, ← em]
      by_cases h0 : i = 0
      · subst h0
        simp
      · exact hpw _ _ hmi' (by omega) (by omega)
    · intro x hx
      obtain ⟨y, hy, e⟩ := key_mem h hl okl hx
      rw [h.cong v x y ov (otl x hx) (okl y hy) e.symm]
      obtain ⟨i, hi, ei⟩ := List.getElem_of_mem hy
      rw [List.getElem_drop, List.getElem_take] at ei
      rw [List.length_drop, List.length_take] at hi
      rw [← ei, ← em]
      exact hpw _ _ (by omega) hmi' (by omega)
end Lox.VB

namespace Go.Proofs.YtpamoleocjdjiaaDoor
open Go.RowKit Lox
set_option linter.unusedVariables false

/-- A tree as it lies in memory: of each node its block, its point, its radius. -/
inductive VT where
  | nil
  | node (g : Nat) (p : TP) (r : Nat) (l f : VT)

def VT.T : VT → VB.T TP
  | .nil => .nil
  | .node _ p r l f => .node p r l.T f.T

/-- The nodes' blocks. -/
def VT.gs : VT → List Nat
  | .nil => []
  | .node g _ _ l f => g :: (l.gs ++ f.gs)

/-- What stands in a node's block. -/
def vnodeCells (p : TP) (r : Nat) (lv fv : Value) : List Value := [p.iv, .float .f64 r, lv, fv]

/-- In world w, at v, such a tree stands. -/
def VT.In (w : World) : VT → Value → Prop
  | .nil, v => v = .pointer none
  | .node g p r l f, v => v = .pointer (some ⟨g, 0, none⟩) ∧ ∃ lv fv, Blk w g 92 (vnodeCells p r lv fv) ∧ l.In w lv ∧ f.In w fv

theorem VT.In.ptr {w : World} {t : VT} {v : Value} (h : t.In w v) : ∃ q, v = .pointer q := by
  cases t with
  | nil => exact ⟨_, h⟩
  | node g p r l f => exact ⟨_, h.1⟩

theorem VT.In.keep {w w' : World} : ∀ {t : VT} {v : Value}, t.In w v → (∀ k ∈ t.gs, k < w.heap.size → w'.heap[k]? = w.heap[k]?) → t.In w' v := by
  intro t
  induction t with
  | nil => intro v h _; exact h
  | node g p r l f ihl ihr =>
    intro v h hk
    obtain ⟨e, lv, rv, hb, hl, hr⟩ := h
    refine ⟨e, lv, rv, ?_, ihl hl fun k hm => hk k (by simp [VT.gs, hm]), ihr hr fun k hm => hk k (by simp [VT.gs, hm])⟩
    have := hk g (by simp [VT.gs]) hb.lt
    unfold Blk at *
    rw [this, hb]

theorem VT.In.lt {w : World} : ∀ {t : VT} {v : Value}, t.In w v → ∀ k ∈ t.gs, k < w.heap.size := by
  intro t
  induction t with
  | nil => intro v h k hk; cases hk
  | node g p r l f ihl ihr =>
    intro v h k hk
    obtain ⟨e, lv, rv, hb, hl, hr⟩ := h
    rcases List.mem_cons.1 hk with rfl | hk
    · exact hb.lt
    · rcases List.mem_append.1 hk with hk | hk
      · exact ihl hl k hk
      · exact ihr hr k hk

theorem VT.In.mod {w w' : World} {t : VT} {v : Value} {S : Nat → Prop} (h : t.In w v) (hm : Mod S w w') (hS : ∀ k ∈ t.gs, ¬ S k) : t.In w' v :=
  h.keep fun k hk hl => hm.block k hl (hS k hk)

/-- The points of a tree. -/
def VT.pts : VT → List TP
  | .nil => []
  | .node _ p _ l f => l.pts ++ p :: f.pts

theorem VT.pts_all : ∀ t : VT, t.pts = t.T.pts := by
  intro t
  induction t with
  | nil => rfl
  | node g p r l f ihl ihr => simp only [VT.pts, VT.T, VB.T.pts, ihl, ihr]
end Go.Proofs.YtpamoleocjdjiaaDoor

namespace Go.Proofs.YtpamoleocjdjiaaDoor
open Go.RowKit Lox
set_option linter.unusedVariables false

/-- A node of a vantage-point tree that is written down, as plain data. -/
structure PV where
  xs : List Nat
  rd : Nat
  l : Int
  r : Int
deriving DecidableEq

/-- A node that is written down, in memory. -/
structure VR where
  p : TP
  rd : Nat
  l : Int
  r : Int

def VR.cells (x : VR) : List Value := [x.p.v, .float .f64 x.rd, .int .i64 x.l, .int .i64 x.r]
def VR.plain (x : VR) : PV := ⟨x.p.xs, x.rd, x.l, x.r⟩

def VT.count : VT → Nat
  | .nil => 0
  | .node _ _ _ l r => 1 + l.count + r.count

/-- Where a tree stands that is written down from place i on. -/
def VT.at (i : Nat) : VT → Int
  | .nil => -1
  | .node _ _ _ _ _ => i

/-- A tree written down from place i on: the node, its closer side, its further side. -/
def VT.flat : Nat → VT → List PV
  | _, .nil => []
  | i, .node _ p d l r => ⟨p.xs, d, l.at (i + 1), r.at (i + 1 + l.count)⟩ :: (l.flat (i + 1) ++ r.flat (i + 1 + l.count))

theorem VT.flat_len : ∀ (t : VT) (i : Nat), (t.flat i).length = t.count := by
  intro t
  induction t with
  | nil => intro i; rfl
  | node g p d l r ihl ihr => intro i; simp only [VT.flat, VT.count, List.length_cons, List.length_append, ihl, ihr]; omega

theorem flat4_len (rs : List VR) : (rs.flatMap VR.cells).length = rs.length * 4 := by
  induction rs with
  | nil => rfl
  | cons x rs ih => simp only [List.flatMap_cons, List.length_append, List.length_cons, ih, VR.cells, List.length_nil]; omega

theorem flat4_get (rs : List VR) (i j : Nat) (x : VR) (hx : rs[i]? = some x) (hj : j < 4) : (rs.flatMap VR.cells)[i * 4 + j]? = x.cells[j]? := by
  induction rs generalizing i with
  | nil => simp at hx
  | cons y rs ih =>
    rw [List.flatMap_cons]
    have hy : y.cells.length = 4 := rfl
    cases i with
    | zero =>
      simp only [List.getElem?_cons_zero, Option.some.injEq] at hx
      subst hx
      rw [Nat.zero_mul, Nat.zero_add, List.getElem?_append_left (by omega)]
    | succ i =>
      rw [List.getElem?_append_right (by omega), hy]
      have e : (i + 1) * 4 + j - 4 = i * 4 + j := by omega
      rw [e]
      exact ih i (by simpa using hx)

theorem flat4_set (rs : List VR) (i j : Nat) (x y : VR) (v : Value) (hx : rs[i]? = some x) (hy : y.cells = x.cells.set j v) (hj : j < 4) : (rs.flatMap VR.cells).set (i * 4 + j) v = (rs.set i y).flatMap VR.cells := by
  induction rs generalizing i with
  | nil => simp at hx
  | cons z rs ih =>
    have hz : z.cells.length = 4 := rfl
    cases i with
    | zero =>
      simp only [List.getElem?_cons_zero, Option.some.injEq] at hx
      subst hx
      rw [List.flatMap_cons, Nat.zero_mul, Nat.zero_add, List.set_append_left _ _ (by omega), List.set_cons_zero, List.flatMap_cons, hy]
    | succ i =>
      rw [List.flatMap_cons, List.set_append_right _ _ (by omega), hz, List.set_cons_succ, List.flatMap_cons]
      have e : (i + 1) * 4 + j - 4 = i * 4 + j := by omega
      rw [e, ih i (by simpa using hx)]

theorem own_set_at {w : World} {B : Nat} {e : TypeId} {size g n cap i : Nat} {xs : List Value} (h : w.ownsRow B e size (.slice (some ⟨g, 0, none⟩) n cap) n xs) (u : Value) :
    (w.setCell ⟨g, i, none⟩ u).ownsRow B e size (.slice (some ⟨g, 0, none⟩) n cap) n (xs.set i u) := by
  refine ⟨by rw [List.length_set]; exact h.1, ?_⟩
  rcases h.2 with ⟨e1, _⟩ | ⟨g', cap', cur, e1, hB, hg, hc, hcm, hsz, ht⟩
  · cases e1
  · cases e1
    have hb : Blk w g e cur.toList := by unfold Blk; simpa using hg
    have hs := hb.set i u
    refine .inr ⟨g, cap, (cur.toList.set i u).toArray, rfl, hB, hs, hc, hcm, by simp [hsz], ?_⟩
    simp only [List.take_set, ht]

/-- A point that is a node's own: no box's point, or one of dims coordinates, in a block apart from the row. -/
def TP.Own (B : Nat) (w : World) (dims : Nat) (v : Value) (p : TP) : Prop := p.Ok w dims ∧ ∀ b o, p.A = some ⟨b, o, none⟩ → B ≤ b ∧ v.ownBlock ≠ some b

/-- Nodes that are written down, in a row v of their own. -/
structure VS (B : Nat) (w : World) (dims : Nat) (v : Value) (rs : List VR) : Prop where
  own : w.ownsRow B 37 4 v rs.length (rs.flatMap VR.cells)
  ok : ∀ x ∈ rs, x.p.Own B w dims v

theorem VS.nil (B : Nat) (w : World) (dims : Nat) : VS B w dims (.slice none 0 0) [] := ⟨World.ownsRow_nil _ _ _ _, fun x hx => by cases hx⟩

theorem TP.Own.keep {B : Nat} {w w' : World} {dims : Nat} {v : Value} {p : TP} (h : p.Own B w dims v) (hk : ∀ k, k < w.heap.size → v.ownBlock ≠ some k → w'.heap[k]? = w.heap[k]?) : p.Own B w' dims v := by
  refine ⟨⟨h.1.1, h.1.2.1, fun h0 => ?_⟩, h.2⟩
  obtain ⟨b, o, e, hc⟩ := h.1.2.2 h0
  exact ⟨b, o, e, fun j u hu => (World.cell?_of_block (w := w) (hk b (lt_of_cell (hc j u hu)) (h.2 b o e).2)).trans (hc j u hu)⟩

theorem VS.mod {B : Nat} {w w' : World} {dims : Nat} {v : Value} {rs : List VR} (h : VS B w dims v rs) (hm : Mod (fun _ => False) w w') : VS B w' dims v rs :=
  ⟨h.own.kept hm.grownBy (Decidable.em _), fun x hx => (h.ok x hx).keep fun k hk _ => hm.block k hk (fun h => h)⟩

/-- The own block behind an append: a point apart from the elder one is apart from the newer one. -/
theorem TP.Own.moved {B : Nat} {w : World} {dims : Nat} {v v' : Value} {p : TP} (hd : 0 < dims) (h : p.Own B w dims v) {g H : Nat} (hv : v'.ownBlock = some g) (hat : v.ownBlock = some g ∨ g = H) (hH : w.heap.size ≤ H) : p.Own B w dims v' := by
  refine ⟨h.1, fun b o e => ⟨(h.2 b o e).1, fun e2 => ?_⟩⟩
  rw [hv] at e2
  injection e2 with e2
  subst e2
  have hlt : g < w.heap.size := (h.1.2.far (by omega)) (by rw [h.1.1]; exact hd) g o e
  rcases hat with h1 | h1
  · exact (h.2 g o e).2 h1
  · omega

/-- A node more is written down. -/
theorem VS.push {B : Nat} {w w3 : World} {dims g cap : Nat} {v : Value} {rs : List VR} {x : VR} {o : Obj} (hd : 0 < dims) (h : VS B w dims v rs) (hx : x.p.Own B w dims v)
    (hown : w3.ownsRow B 37 4 (.slice (some ⟨g, 0, none⟩) (rs.length + 1) cap) (rs.length + 1) (rs.flatMap VR.cells ++ x.cells)) (hgrow : (w.alloc o).grownBy w3 v.ownBlock) (hat : v.ownBlock = some g ∨ g = w.heap.size + 1) :
    VS B w3 dims (.slice (some ⟨g, 0, none⟩) (rs.length + 1) cap) (rs ++ [x]) := by
  have hk : ∀ k, k < w.heap.size → v.ownBlock ≠ some k → w3.heap[k]? = w.heap[k]? := fun k hk hne =>
    (hgrow.block k (by rw [World.size_alloc]; omega) (Ne.symm hne)).trans (Below.heap_alloc _ _ _ hk)
  have hz : w.heap.size ≤ w3.heap.size := by have := hgrow.size; rw [World.size_alloc] at this; omega
  have mv : ∀ p : TP, p.Own B w dims v → p.Own B w3 dims (.slice (some ⟨g, 0, none⟩) (rs.length + 1) cap) := by
    intro p hp
    have h1 : p.Own B w dims (.slice (some ⟨g, 0, none⟩) (rs.length + 1) cap) := hp.moved hd rfl hat (by omega)
    exact ⟨(hp.keep hk).1, h1.2⟩
  refine ⟨by rw [List.length_append, List.flatMap_append]; simpa using hown, fun y hy => ?_⟩
  rcases List.mem_append.1 hy with hy | hy
  · exact mv _ (h.ok y hy)
  · rw [List.mem_singleton.1 hy]
    exact mv _ hx

/-- A node's both sides are written. -/
theorem VS.sides {B : Nat} {w : World} {dims i g n cap : Nat} {rs : List VR} {x : VR} (h : VS B w dims (.slice (some ⟨g, 0, none⟩) n cap) rs) (hn : n = rs.length) (hx : rs[i]? = some x) (l r : Int) :
    VS B ((w.setCell ⟨g, i * 4 + 2, none⟩ (.int .i64 l)).setCell ⟨g, i * 4 + 3, none⟩ (.int .i64 r)) dims (.slice (some ⟨g, 0, none⟩) n cap) (rs.set i { x with l := l, r := r }) := by
  subst hn
  have hil := (List.getElem?_eq_some_iff.1 hx).1
  have h1 := own_set_at (i := i * 4 + 2) h.own (.int .i64 l)
  rw [flat4_set rs i 2 x { x with l := l } _ hx rfl (by omega)] at h1
  have hx2 : (rs.set i { x with l := l })[i]? = some { x with l := l } := by rw [List.getElem?_set_self hil]
  have h2 := own_set_at (i := i * 4 + 3) h1 (.int .i64 r)
  rw [flat4_set _ i 3 { x with l := l } { x with l := l, r := r } _ hx2 rfl (by omega), List.set_set] at h2
  have hk : ∀ k, k < w.heap.size → (Value.slice (some ⟨g, 0, none⟩) rs.length cap).ownBlock ≠ some k → ((w.setCell ⟨g, i * 4 + 2, none⟩ (.int .i64 l)).setCell ⟨g, i * 4 + 3, none⟩ (.int .i64 r)).heap[k]? = w.heap[k]? := fun k _ hne => by
    have hne' : k ≠ g := fun e => hne (by rw [e]; rfl)
    rw [Below.heap_setCell _ _ _ _ (by show k ≠ g; exact hne'), Below.heap_setCell _ _ _ _ (by show k ≠ g; exact hne')]
  have hk2 : ∀ y ∈ rs, (y.p.Own B ((w.setCell ⟨g, i * 4 + 2, none⟩ (.int .i64 l)).setCell ⟨g, i * 4 + 3, none⟩ (.int .i64 r)) dims (.slice (some ⟨g, 0, none⟩) rs.length cap)) :=
    fun y hy => (h.ok y hy).keep hk
  refine ⟨by rw [List.length_set]; exact h2, fun y hy => ?_⟩
  rcases List.mem_or_eq_of_mem_set hy with hy | rfl
  · exact hk2 y hy
  · exact hk2 x (List.mem_of_getElem? hx)

theorem VS.cell {B : Nat} {w : World} {dims i g n cap j : Nat} {rs : List VR} {x : VR} (h : VS B w dims (.slice (some ⟨g, 0, none⟩) n cap) rs) (hn : n = rs.length) (hx : rs[i]? = some x) (hj : j < 4) :
    w.cell? ⟨g, i * 4 + j, none⟩ = x.cells[j]? ∧ w.frozen? ⟨g, i * 4 + j, none⟩ = false := by
  subst hn
  have hg := flat4_get rs i j x hx hj
  have hcj : x.cells[j]? = some (x.cells[j]'(by show j < 4; exact hj)) := List.getElem?_eq_getElem _
  rw [hcj] at hg
  have := h.own.cells (g := g) rfl _ _ hg
  rw [addr_lit, Nat.zero_add] at this
  refine ⟨this.trans hcj.symm, ?_⟩
  rcases h.own.2 with ⟨e1, _⟩ | ⟨g', cap', cur, e1, hB, hgg, _⟩
  · cases e1
  · cases e1
    have hb : Blk w g 37 cur.toList := by unfold Blk; simpa using hgg
    exact hb.frozen _
end Go.Proofs.YtpamoleocjdjiaaDoor

namespace Lox
open Go Go.RowKit
set_option linter.unusedVariables false

/-- A word of a whole number. -/
def Gn (x : Nat) : Prop := ∃ n, Gd 0 x n
open Classical in
/-- The whole number that a word stands for. -/
noncomputable def zv (x : Nat) : Int := if h : Gn x then Classical.choose h else 0
theorem zv_gd {x : Nat} (h : Gn x) : Gd 0 x (zv x) := by
  unfold zv
  rw [dif_pos h]
  exact Classical.choose_spec h
theorem zv_eq {x : Nat} {n : Int} (h : Gd 0 x n) : zv x = n := gd_unique (zv_gd ⟨n, h⟩) h

/-- xs with x at place i. -/
def insAt (xs : List Nat) (x i : Nat) : List Nat := xs.take i ++ x :: xs.drop i

theorem insAt_end (xs : List Nat) (x : Nat) : insAt xs x xs.length = xs ++ [x] := by simp [insAt]
theorem insAt_len {xs : List Nat} {x i : Nat} (h : i ≤ xs.length) : (insAt xs x i).length = xs.length + 1 := by simp [insAt]; omega
theorem split_at {xs : List Nat} {j y : Nat} (h : xs[j]? = some y) : ∃ A B, xs = A ++ y :: B ∧ A.length = j := by
  obtain ⟨hl, e⟩ := List.getElem?_eq_some_iff.1 h
  refine ⟨xs.take j, xs.drop (j + 1), ?_, by simp; omega⟩
  rw [← e, ← List.drop_eq_getElem_cons hl, List.take_append_drop]
theorem insAt_at {A B : List Nat} {x y : Nat} : insAt (A ++ y :: B) x A.length = A ++ x :: y :: B ∧ insAt (A ++ y :: B) x (A.length + 1) = A ++ y :: x :: B := by
  unfold insAt
  constructor
  · simp
  · have e : A ++ y :: B = (A ++ [y]) ++ B := by simp
    have l : A.length + 1 = (A ++ [y]).length := by simp
    rw [e, l, List.take_left, List.drop_left]
    simp
theorem insAt_swap {xs : List Nat} {x y j : Nat} (h : xs[j]? = some y) : ((insAt xs x (j + 1)).set (j + 1) y).set j x = insAt xs x j := by
  obtain ⟨A, B, rfl, rfl⟩ := split_at h
  rw [insAt_at.1, insAt_at.2]
  simp
theorem insAt_get {xs : List Nat} {x y j : Nat} (h : xs[j]? = some y) : (insAt xs x (j + 1))[j]? = some y ∧ (insAt xs x (j + 1))[j + 1]? = some x := by
  obtain ⟨A, B, rfl, rfl⟩ := split_at h
  rw [insAt_at.2]
  simp
theorem insAt_perm (xs : List Nat) (x i : Nat) : (insAt xs x i).Perm (x :: xs) := by
  unfold insAt
  refine List.perm_middle.trans ?_
  rw [List.take_append_drop]

/-- Sorted by the numbers. -/
def Up (xs : List Nat) : Prop := xs.Pairwise fun a b => zv a ≤ zv b

theorem insAt_up {xs : List Nat} {x i : Nat} (h : Up xs) (hi : i ≤ xs.length) (h1 : ∀ y ∈ xs.drop i, zv x < zv y) (h2 : ∀ j y, i = j + 1 → xs[j]? = some y → zv y ≤ zv x) : Up (insAt xs x i) := by
  have h0 : Up (xs.take i ++ xs.drop i) := by rw [List.take_append_drop]; exact h
  obtain ⟨a1, a2, a3⟩ := List.pairwise_append.1 h0
  refine List.pairwise_append.2 ⟨a1, List.pairwise_cons.2 ⟨fun y hy => by have := h1 y hy; omega, a2⟩, fun a ha b hb => ?_⟩
  rcases List.mem_cons.1 hb with rfl | hb
  · cases i with
    | zero => simp at ha
    | succ j =>
      obtain ⟨y, hy⟩ : ∃ y, xs[j]? = some y := ⟨_, List.getElem?_eq_getElem (by omega)⟩
      have hyx := h2 j y rfl hy
      rw [List.take_add_one, hy] at ha a1
      rcases List.mem_append.1 ha with ha | ha
      · have := (List.pairwise_append.1 a1).2.2 a ha y (by simp)
        omega
      · have : a = y := by simpa using ha
        rw [this]; exact hyx
  · exact a3 a ha b hb

theorem own_at {w : World} {B : Nat} {e : TypeId} {g n cap : Nat} {xs : List Value} (h : w.ownsRow B e 1 (.slice (some ⟨g, 0, none⟩) n cap) n xs) {j : Nat} {u : Value} (hu : xs[j]? = some u) : w.cell? ⟨g, j, none⟩ = some u ∧ w.frozen? ⟨g, j, none⟩ = false := by
  have h1 := h.cells (g := g) rfl j u hu
  rw [addr_lit, Nat.zero_add] at h1
  refine ⟨h1, ?_⟩
  rcases h.2 with ⟨e1, _⟩ | ⟨g', cap', cur, e1, hB, hg, _⟩
  · cases e1
  · cases e1
    have hb : Blk w g e cur.toList := by unfold Blk; simpa using hg
    exact hb.frozen _
end Lox
namespace Go.Proofs.YtpamoleocjdjiaaDoor
open Go.RowKit Lox
set_option linter.unusedVariables false
attribute [local go_sem] run_store_flt run_store_fn

theorem flts_set (xs : List Nat) (i x : Nat) : (flts xs).set i (.float .f64 x) = flts (xs.set i x) := by unfold flts; rw [List.map_set]
theorem flts_app (xs ys : List Nat) : flts xs ++ flts ys = flts (xs ++ ys) := by unfold flts; rw [List.map_append]
theorem flts_get {xs : List Nat} {j x : Nat} (h : xs[j]? = some x) : (flts xs)[j]? = some (.float .f64 x) := by unfold flts; rw [List.getElem?_map, h]; rfl

/-- What withNumber tells: the row's new value, the place. -/
def WithTold (B n : Nat) (v : Value) (xs : List Nat) (x : Nat) (w : World) (e : Ending) (w' : World) : Prop :=
  ∃ (g cap i : Nat), e = .returned (.slice (some ⟨g, 0, none⟩) (n + 1) cap) ∧ w'.ownsRow B 27 1 (.slice (some ⟨g, 0, none⟩) (n + 1) cap) (n + 1) (flts (insAt xs x i)) ∧ i ≤ n ∧ (∀ y ∈ xs.drop i, zv x < zv y) ∧ (∀ j y, i = j + 1 → xs[j]? = some y → zv y ≤ zv x) ∧ Mod (fun k => v.ownBlock = some k) w w' ∧ (v.ownBlock = some g ∨ w.heap.size ≤ g)

/-- The loop's state. -/
structure WS (B n g cap : Nat) (v : Value) (xs : List Nat) (x i : Nat) (w w' : World) : Prop where
  own : w'.ownsRow B 27 1 (.slice (some ⟨g, 0, none⟩) (n + 1) cap) (n + 1) (flts (insAt xs x i))
  gt : ∀ y ∈ xs.drop i, zv x < zv y
  mod : Mod (fun k => v.ownBlock = some k) w w'
  at' : v.ownBlock = some g ∨ w.heap.size ≤ g

theorem WS.step {B n g cap i y x : Nat} {v : Value} {xs : List Nat} {w w' : World} (h : WS B n g cap v xs x (i + 1) w w') (hy : xs[i]? = some y) (hlt : zv x < zv y) : WS B n g cap v xs x i w ((w'.setCell ⟨g, i + 1, none⟩ (.float .f64 y)).setCell ⟨g, i, none⟩ (.float .f64 x)) := by
  refine ⟨?_, fun z hz => ?_, (h.mod.set (p := ⟨g, i + 1, none⟩) h.at' _).set (p := ⟨g, i, none⟩) h.at' _, h.at'⟩
  · have h2 := own_set_at (i := i) (own_set_at (i := i + 1) h.own (.float .f64 y)) (.float .f64 x)
    rw [flts_set, flts_set, insAt_swap hy] at h2
    exact h2
  · obtain ⟨A, B', rfl, rfl⟩ := split_at hy
    rw [List.drop_left] at hz
    rcases List.mem_cons.1 hz with rfl | hz
    · exact hlt
    · refine h.gt z ?_
      have e : A ++ y :: B' = (A ++ [y]) ++ B' := by simp
      have l : A.length + 1 = (A ++ [y]).length := by simp
      rw [e, l, List.drop_left]
      exact hz

set_option maxHeartbeats 4000000 in
theorem with_at (B n : Nat) (v : Value) (xs : List Nat) (x : Nat) (w : World) (hown : w.ownsRow B 27 1 v n (flts xs)) (hn : n ≤ 2147483647) (hB : B ≤ w.heap.size) (hg : ∀ y ∈ xs, Gn y) (hx : Gn x) :
    Calls Tryd.prog 33 #[v, .float .f64 x] w (WithTold B n v xs x w) := by
  obtain ⟨i0, hi0, hz0, hz1, hz2⟩ := info_parts info_f64
  have HI := Lib.hid (And.intro hi0 (And.intro hz0 (And.intro hz1 hz2)))
  clear hi0 hz0 hz1 hz2
  have hxl : xs.length = n := by have := hown.1; simpa [flts] using this
  have HH := Lib.hid (And.intro hown (And.intro hB (And.intro hg (And.intro hx hxl))))
  clear hown hB hg hx hxl
  go_enter Tryd.func33, Tryd.ntmps33
  go_wp2_with (at_builtin; refine wpList_append_lies _ (by rfl) (.tmp 6) (.tmp 8) 26 (by rfl) B 27 i0 _ 1 8 Tryd.underlying26 HI.out.1 HI.out.2.1 HI.out.2.2.1 HI.out.2.2.2 rfl (by omega) v n (flts xs) (by rfl) ((HH.out.1.kept (Mod.grownBy (Mod.refl _ w)) (Decidable.em _)).alloc _) ⟨w.heap.size, 0, none⟩ 1 1 [.float .f64 x] (by rfl) (by rfl) (World.news_of_block (cs := #[.float .f64 x]) (t := 27) (fr := (0, 0)) (heap_alloc_new w _)) (by simp [Value.oneCell']) (by omega) (by unfold maxLen; omega) (by omega) (by have := HH.out.2.1; simp; omega) (w.heap.size + 1) (by simp) ?_; intro g cap w3 hown3 hgrow hat hlt3; have HG := Lib.hid (And.intro hown3 (And.intro hgrow hat)); clear hown3 hgrow hat)
  have hws : WS B n g cap v xs x n w w3 := by
    obtain ⟨h1, h2, h3⟩ := HG.out
    refine ⟨?_, fun y hy => ?_, ((Mod.refl _ w).alloc _).grown h2 (fun k e _ => e), ?_⟩
    · have e : flts xs ++ [.float .f64 x] = flts (insAt xs x n) := by rw [← HH.out.2.2.2.2, insAt_end, ← flts_app]; rfl
      rw [e] at h1
      exact h1
    · rw [← HH.out.2.2.2.2, List.drop_length] at hy; cases hy
    · rcases h3 with h3 | h3
      · exact .inl h3
      · exact .inr (by omega)
  have HW0 := Lib.hid hws
  clear hws
  go_loopw [5] (fun i w' => ∃ k : Nat, k ≤ n ∧ i = .int .i64 k ∧ Hid (WS B n g cap v xs x k w w')) (fun i _ => (intOf i).toNat)
  case atStart => exact ⟨n, Nat.le_refl _, by go_num, HW0.out⟩
  case round =>
    obtain ⟨k, hk, rfl, HR⟩ := hrel
    cases k with
    | zero =>
      go_wp2
      go_ret
      exact ⟨g, cap, 0, rfl, HR.out.own, Nat.zero_le _, HR.out.gt, (fun j y e => by omega), HR.out.mod, HR.out.at'⟩
    | succ j =>
      obtain ⟨y, hy⟩ : ∃ y, xs[j]? = some y := ⟨_, List.getElem?_eq_getElem (by have := HH.out.2.2.2.2; omega)⟩
      obtain ⟨g1, g2⟩ := insAt_get (x := x) hy
      obtain ⟨c1, z1⟩ := own_at HR.out.own (flts_get g1)
      obtain ⟨c2, z2⟩ := own_at HR.out.own (flts_get g2)
      have gy := HH.out.2.2.1 y (List.mem_of_getElem? hy)
      have hgt := (zv_gd gy).gt (zv_gd HH.out.2.2.2.1)
      have HY := Lib.hid hy
      have j0 : (0 : Int) ≤ j := by omega
      have j1 : (j : Int) < (n : Int) + 1 := by omega
      have j2 : (j : Int) + 1 < (n : Int) + 1 := by omega
      clear hy g1 g2 gy
      by_cases hlt : zv x < zv y
      · rw [decide_eq_true hlt] at hgt
        have HLT := Lib.hid hlt
        clear hlt
        go_wp2
        go_roundw
        case rel => exact ⟨j, by omega, by go_num, HR.out.step HY.out HLT.out⟩
        case measure => simp [intOf]
      · rw [decide_eq_false hlt] at hgt
        have HLT := Lib.hid hlt
        clear hlt
        go_wp2
        go_ret
        exact ⟨g, cap, j + 1, rfl, HR.out.own, hk, HR.out.gt, (fun j' y' e e2 => by
          obtain rfl : j' = j := by omega
          have e3 := HY.out.symm.trans e2
          injection e3 with e3
          subst e3
          have := HLT.out
          omega), HR.out.mod, HR.out.at'⟩
end Go.Proofs.YtpamoleocjdjiaaDoor

namespace Go.Proofs.YtpamoleocjdjiaaDoor
open Go.RowKit Lox
set_option linter.unusedVariables false
attribute [local go_sem] run_store_flt run_store_fn

/-- Numbers that have been laid in order so far, in a row of their own. -/
structure SQ (w w' : World) (v : Value) (k : Nat) (ns : List Int) (ws : List Nat) : Prop where
  own : w'.ownsRow w.heap.size 27 1 v k (flts ws)
  up : Up ws
  gn : ∀ y ∈ ws, Gn y
  perm : (ws.map zv).Perm ns
  mod : Mod (fun _ => False) w w'

theorem SQ.step {w w' w1 w2 : World} {v : Value} {k r : Nat} {ns : List Int} {n : Int} {ws : List Nat} {e : Ending} (h : SQ w w' v k ns ws) (h1 : Mod (fun _ => False) w' w1) (hr : Gd 0 r n) (hw : WithTold w.heap.size k v ws r w1 e w2) :
    ∃ (g cap : Nat) (ws' : List Nat), e = .returned (.slice (some ⟨g, 0, none⟩) (k + 1) cap) ∧ SQ w w2 (.slice (some ⟨g, 0, none⟩) (k + 1) cap) (k + 1) (ns ++ [n]) ws' := by
  obtain ⟨g, cap, i, rfl, a1, a2, a3, a4, a5, a6⟩ := hw
  have hl : ws.length = k := by have := h.own.1; simpa [flts] using this
  have hp := insAt_perm ws r i
  refine ⟨g, cap, insAt ws r i, rfl, a1, insAt_up h.up (by omega) a3 a4, fun y hy => ?_, ?_, (h.mod.trans h1).trans' a5 fun j hj e => ?_⟩
  · rcases List.mem_cons.1 (hp.mem_iff.1 hy) with rfl | hy
    · exact ⟨n, hr⟩
    · exact h.gn y hy
  · refine (hp.map zv).trans ?_
    rw [List.map_cons, zv_eq hr]
    exact (List.Perm.cons n h.perm).trans (List.perm_append_comm (l₁ := [n]) (l₂ := ns))
  · have := (own_block h.own e).1
    omega

/-- What SquaresTo tells. -/
def SqTold (n : Nat) (ns : List Int) (w : World) (e : Ending) (w' : World) : Prop :=
  ∃ (V : Option Addr) (c : Nat) (ws : List Nat), e = .returned (.slice V n c) ∧ Sl w' V n 1 (flts ws) ∧ n ≤ c ∧ c ≤ 9223372036854775807 ∧ Up ws ∧ (∀ y ∈ ws, Gn y) ∧ (ws.map zv).Perm ns ∧ Mod (fun _ => False) w w'

theorem SQ.told {w w' : World} {v : Value} {n : Nat} {ns : List Int} {ws : List Nat} (h : SQ w w' v n ns ws) : SqTold n ns w (.returned v) w' := by
  rcases h.own.2 with ⟨rfl, h0⟩ | ⟨g, cap, cur, rfl, hB, hg, hc, hcm, hsz, ht⟩
  · subst h0
    exact ⟨none, 0, ws, rfl, ⟨by have := h.own.1; simpa using this, fun h => by omega⟩, Nat.le_refl _, by omega, h.up, h.gn, h.perm, h.mod⟩
  · refine ⟨_, _, ws, rfl, ⟨h.own.1, fun _ => ⟨g, 0, rfl, fun j u hu => ?_⟩⟩, hc, by unfold maxLen at hcm; exact hcm, h.up, h.gn, h.perm, h.mod⟩
    rw [Nat.zero_add]
    exact (own_at h.own hu).1

set_option maxHeartbeats 4000000 in
theorem squares_at (A : Option Addr) (n c dims : Nat) (ps : List TP) (q : TP) (w : World) (hp : PRows w A n ps dims) (hg : ∀ p ∈ ps, p.Gr) (hq : q.Ok w dims) (gq : q.Gr) (hn : n ≤ 2147483647) (hdm : dims ≤ 4) :
    Calls Tryd.prog 14 #[.slice A n c, .slice q.A dims q.c] w (SqTold n (ps.map fun p => sqx p.xs q.xs dims) w) := by
  have HH := Lib.hid (And.intro hp (And.intro hg (And.intro hq gq)))
  clear hp hg hq gq
  go_enter Tryd.func14, Tryd.ntmps14
  go_wp2
  go_loopw [5, 10] (fun v i w' => ∃ (k : Nat) (ws : List Nat), k ≤ n ∧ i = .int .i64 k ∧ Hid (SQ w w' v k ((ps.take k).map fun p => sqx p.xs q.xs dims) ws)) (fun _ i _ => n - (intOf i).toNat)
  case atStart => exact ⟨0, [], Nat.zero_le _, rfl, World.ownsRow_nil _ _ _ _, List.Pairwise.nil, fun y hy => (by cases hy), List.Perm.refl _, Mod.refl _ _⟩
  case round =>
    obtain ⟨k, ws, hk, rfl, HR⟩ := hrel
    by_cases hlt : k < n
    · have hpi := HH.out.1.mod HR.out.mod
      obtain ⟨b, o, v0, e1, e2, c1⟩ := hpi.1.at1 hlt
      have hk2 : k < ps.length := by have := hpi.len; omega
      obtain ⟨p, ep⟩ : ∃ p, p = ps[k] := ⟨_, rfl⟩
      have hpm : p ∈ ps := by rw [ep]; exact List.getElem_mem hk2
      have hTK : ps.take (k + 1) = ps.take k ++ [p] := by rw [List.take_succ_eq_append_getElem hk2, ep]
      have e3 : (ps.map TP.v)[k]? = some p.v := by rw [ep]; simp [hk2]
      rw [e3] at e2
      cases e2
      obtain ⟨hrd, hpl⟩ := hpi.2 p hpm
      have c2 : wr.cell? ⟨b, o + k, none⟩ = some (.slice p.A dims p.c) := by rw [c1, ← hpl]; rfl
      have HS := Lib.hid (And.intro (show p.Ok wr dims from ⟨hpl, hrd.1⟩) (And.intro (HH.out.2.2.1.mod0 HR.out.mod) (And.intro (HH.out.2.1 p hpm) hTK)))
      subst e1
      clear hpi ep hpm hTK e3 c1 hrd hpl hk2
      have i0' : (0 : Int) ≤ k := by omega
      have i1' : (k : Int) < n := by omega
      go_wp2_with (first
        | (go_at_call 15; refine (square_at wr dims p q HS.out.1 HS.out.2.1 HS.out.2.2.1 HH.out.2.2.2 hdm).mono ?_; rintro _ w1 ⟨⟨r, rfl, hr⟩, m1, rfl⟩; have H1 := Lib.hid hr; clear hr)
        | (go_at_call 33; refine (with_at w.heap.size k _ ws r _ (HR.out.own.kept (Mod.grownBy ((Mod.refl _ wr).drewN m1)) (Decidable.em _)) (by omega) (HR.out.mod.drewN m1).size HR.out.gn ⟨_, H1.out⟩).mono ?_; rintro _ w2 hw; obtain ⟨g, cap, ws', rfl, hs⟩ := HR.out.step ((Mod.refl _ wr).drewN m1) H1.out hw; have H2 := Lib.hid hs; clear hs hw))
      go_roundw
      case rel =>
        refine ⟨k + 1, ws', by omega, by go_num, ?_⟩
        have h := H2.out
        rw [HS.out.2.2.2, List.map_append]
        exact h
      case measure => simp [intOf]; omega
    · obtain rfl : k = n := by omega
      go_wp2
      go_ret
      have h := HR.out
      rw [List.take_of_length_le (by have := HH.out.1.len; omega)] at h
      exact h.told
end Go.Proofs.YtpamoleocjdjiaaDoor

namespace Lox
open Go Go.RowKit
set_option linter.unusedVariables false

theorem fin_mag {x : Nat} (h : Fw x) : Fw (x % 9223372036854775808) ∧ vl (x % 9223372036854775808) = (vl x).abs ∧ x % 9223372036854775808 < 9218868437227405312 := by
  obtain ⟨s, m, i, e⟩ := h
  obtain ⟨e1, e2, e3, e4, e5⟩ := double_eqs
  have er : Ieee.double.read x = .number s m i := e
  have key : ∃ r, r = x % 9223372036854775808 ∧ Ieee.double.read r = .number false m i ∧ r < 9218868437227405312 := by
    refine ⟨_, rfl, ?_⟩
    obtain ⟨r, hr⟩ : ∃ r, r = x % 9223372036854775808 := ⟨_, rfl⟩
    have hrl : r < 9223372036854775808 := by rw [hr]; exact Nat.mod_lt _ (by omega)
    unfold Ieee.Format.read at er ⊢
    simp only [e1, e2, e3, e4] at er ⊢
    rw [← hr] at er ⊢
    have d1 : r / 9223372036854775808 = 0 := Nat.div_eq_of_lt hrl
    have d2 : r % 9223372036854775808 = r := Nat.mod_eq_of_lt hrl
    rw [d1, d2]
    by_cases h1 : r < 4503599627370496
    · rw [if_pos h1] at er ⊢
      cases er
      exact ⟨rfl, by omega⟩
    · rw [if_neg h1] at er ⊢
      by_cases h2 : r < 9218868437227405312
      · rw [if_pos h2] at er ⊢
        cases er
        exact ⟨rfl, h2⟩
      · rw [if_neg h2] at er
        split at er <;> cases er
  obtain ⟨r, hr, h1, h2⟩ := key
  rw [← hr]
  have h1' : FloatKind.f64.decode r = .number false m i := h1
  have hv : vl x = sg s * ((m : Rat) * p2 i) := by unfold vl; rw [e]; rfl
  refine ⟨⟨_, _, _, h1'⟩, ?_, h2⟩
  have : vl r = (m : Rat) * p2 i := by unfold vl; rw [h1']; simp [dv, sg]
  rw [this, hv, sg_abs, Rat.abs_of_nonneg]
  exact Rat.mul_nonneg Rat.natCast_nonneg (Rat.le_of_lt (p2_pos _))

theorem max_fw : Fw 9218868437227405311 := ⟨false, 9007199254740991, 971, by decide +kernel⟩

theorem max_vl : (8192 : Rat) < vl 9218868437227405311 := by
  have e : FloatKind.f64.decode 9218868437227405311 = .number false 9007199254740991 971 := by decide +kernel
  unfold vl
  rw [e]
  show (8192 : Rat) < sg false * (((9007199254740991 : Nat) : Rat) * p2 971)
  have h1 := p2_le (i := 0) (j := 971) (by decide)
  rw [p2_zero] at h1
  have h2 : (((9007199254740991 : Nat) : Rat)) = 9007199254740991 := rfl
  have h3 : sg false = 1 := rfl
  rw [h2, h3]
  grind

theorem andNot_top (x : Nat) : bits .andNot .u64 (x : Int) 9223372036854775808 = ((x % 9223372036854775808 : Nat) : Int) := by
  show IntKind.u64.wrap ((BitVec.ofInt 64 (x : Int) &&& ~~~BitVec.ofInt 64 (9223372036854775808 : Int)).toNat : Int) = _
  have e : (~~~BitVec.ofInt 64 (9223372036854775808 : Int)).toNat = 2 ^ 63 - 1 := by decide
  rw [BitVec.toNat_and, e, Nat.and_two_pow_sub_one_eq_mod, BitVec.ofInt_natCast, BitVec.toNat_ofNat, IntKind.wrap_u64]
  omega

theorem not_inf {x : Nat} (h : Fw x) (h0 : 0 ≤ vl x) (h1 : vl x ≤ 8192) : (FloatKind.f64.format.order (x % 9223372036854775808) 9218868437227405311 == some .gt) = false := by
  obtain ⟨f, e, _⟩ := fin_mag h
  rw [or_gt f max_fw, e, Rat.abs_of_nonneg h0]
  have := max_vl
  exact decide_eq_false (by grind)
end Lox
namespace Go.Proofs.YtpamoleocjdjiaaDoor
open Go.RowKit Lox
set_option linter.unusedVariables false
attribute [local go_sem] run_store_flt run_store_fn

theorem run_fbits (x : Nat) (w : World) : (callFunc 31 #[.float .f64 x]).run Tryd.prog w = .ok (.value (.int .u64 x)) w := by
  rw [run_callFunc_extern Tryd.func31 (by kernel_rfl) (by kernel_rfl) (by kernel_rfl) (e := Extern.MathFloatBits.float64bits) (by kernel_rfl)]
  rfl

theorem run_ffrom (x : Nat) (w : World) : (callFunc 30 #[.int .u64 x]).run Tryd.prog w = .ok (.value (.float .f64 x)) w := by
  rw [run_callFunc_extern Tryd.func30 (by kernel_rfl) (by kernel_rfl) (by kernel_rfl) (e := Extern.MathFloatBits.float64frombits) (by kernel_rfl)]
  rfl

theorem abs_at (w : World) (x : Nat) : Calls Tryd.prog 12 #[.float .f64 x] w fun e w' => e = .returned (.float .f64 (x % 9223372036854775808)) ∧ w = w' := by
  have h1 := run_fbits
  have h2 := run_ffrom
  obtain ⟨y, hy⟩ : ∃ y, y = x % 9223372036854775808 := ⟨_, rfl⟩
  have h3 := andNot_top x
  rw [← hy] at h3 ⊢
  have h2' := h2 y
  clear hy h2
  go_enter Tryd.func12, Tryd.ntmps12
  go_wp2_with fail
  go_ret
  exact ⟨rfl, rfl⟩

theorem isinf_at (w : World) (x : Nat) (h : Fw x) (h0 : 0 ≤ vl x) (hx : vl x ≤ 8192) : Calls Tryd.prog 82 #[.float .f64 x, .int .i64 0] w fun e w' => e = .returned (.bool false) ∧ w = w' := by
  have hn := not_inf h h0 hx
  clear h h0 hx
  go_enter Tryd.func82, Tryd.ntmps82
  go_wp2_with (go_at_call 12; refine (abs_at w x).mono ?_; rintro _ _ ⟨rfl, rfl⟩)
  go_ret
  exact ⟨rfl, rfl⟩
end Go.Proofs.YtpamoleocjdjiaaDoor

namespace Lox
open Go Go.RowKit

/-- The nodes from node i on, in order, each with its depth. -/
def ino (C F : Nat → Int) (n : Nat) (i dep : Nat) : List (Int × Int) :=
  (if h : (i : Int) < C i ∧ C i < n then ino C F n (C i).toNat (dep + 1) else []) ++ (((i : Int), (dep : Int)) :: (if h : (i : Int) < F i ∧ F i < n then ino C F n (F i).toNat (dep + 1) else []))
termination_by n - i
decreasing_by all_goals omega

/-- The nodes from a child on: none, if it is none. -/
def chl (C F : Nat → Int) (n : Nat) (c : Int) (above : Int) (dep : Nat) : List (Int × Int) := if above < c ∧ c < n then ino C F n c.toNat dep else []

theorem ino_eq (C F : Nat → Int) (n i dep : Nat) : ino C F n i dep = chl C F n (C i) i (dep + 1) ++ (((i : Int), (dep : Int)) :: chl C F n (F i) i (dep + 1)) := by
  rw [ino]
  unfold chl
  rfl

theorem chl_none {C F : Nat → Int} {n : Nat} {c above : Int} {dep : Nat} (h : ¬ (above < c ∧ c < n)) : chl C F n c above dep = [] := if_neg h

theorem chl_node {C F : Nat → Int} {n : Nat} {above : Int} {k dep : Nat} (h : above < k) (hk : k < n) : chl C F n k above dep = chl C F n (C k) k (dep + 1) ++ (((k : Int), (dep : Int)) :: chl C F n (F k) k (dep + 1)) := by
  unfold chl
  rw [if_pos ⟨h, by omega⟩]
  exact ino_eq C F n k dep

/-- How many are true. -/
def cnt (bs : List Bool) : Nat := bs.count true

theorem cnt_le (bs : List Bool) : cnt bs ≤ bs.length := List.count_le_length

theorem cnt_set {bs : List Bool} {k : Nat} (h : bs[k]? = some false) : cnt (bs.set k true) = cnt bs + 1 := by
  obtain ⟨hk, e⟩ := List.getElem?_eq_some_iff.1 h
  unfold cnt
  rw [List.count_set hk, e]
  simp
end Lox

namespace Lox
open Go Go.RowKit
set_option linter.unusedVariables false

/-- The shape of a tree, its nodes by their places. -/
inductive SH where
  | nil
  | node (k : Nat) (l r : SH)

def SH.ids : SH → List Nat
  | .nil => []
  | .node k l r => k :: (l.ids ++ r.ids)

/-- The nodes in the order of the walk. -/
def SH.ord : SH → List Nat
  | .nil => []
  | .node k l r => l.ord ++ k :: r.ord

/-- From place i on, below the node above, a tree of this shape hangs. -/
def SH.At (C F : Nat → Int) (n : Nat) : SH → Int → Int → Prop
  | .nil, i, _ => i = -1
  | .node k l r, i, above => i = k ∧ above < k ∧ k < n ∧ l.At C F n (C k) k ∧ r.At C F n (F k) k

theorem SH.at_chl {C F : Nat → Int} {n : Nat} : ∀ (s : SH) {i above : Int} {d : Nat}, s.At C F n i above → -1 ≤ above → (chl C F n i above d).map (·.1) = s.ord.map Int.ofNat := by
  intro s
  induction s with
  | nil => intro i above d h ha; rw [show i = -1 from h, chl_none (by omega)]; rfl
  | node k l r ihl ihr =>
    rintro i above d ⟨rfl, h1, h2, h3, h4⟩ ha
    rw [chl_node h1 h2, List.map_append, List.map_cons, ihl h3 (by omega), ihr h4 (by omega)]
    simp [SH.ord]

theorem SH.ord_len : ∀ s : SH, s.ord.length = s.ids.length := by
  intro s
  induction s with
  | nil => rfl
  | node k l r ihl ihr => simp only [SH.ord, SH.ids, List.length_append, List.length_cons, ihl, ihr]; omega

theorem SH.at_len {C F : Nat → Int} {n : Nat} (s : SH) {i above : Int} {d : Nat} (h : s.At C F n i above) (ha : -1 ≤ above := by omega) : (chl C F n i above d).length = s.ids.length := by
  have := congrArg List.length (s.at_chl (d := d) h ha)
  rw [List.length_map, List.length_map, s.ord_len] at this
  exact this

theorem SH.at_lt {C F : Nat → Int} {n : Nat} : ∀ (s : SH) {i above : Int}, s.At C F n i above → ∀ k ∈ s.ids, k < n := by
  intro s
  induction s with
  | nil => intro i above h k hk; cases hk
  | node j l r ihl ihr =>
    rintro i above ⟨rfl, h1, h2, h3, h4⟩ k hk
    rcases List.mem_cons.1 hk with rfl | hk
    · exact h2
    · rcases List.mem_append.1 hk with hk | hk
      · exact ihl h3 k hk
      · exact ihr h4 k hk

/-- Where such a tree hangs whose nodes were not met, the walk says yes, and has met just these. -/
def Yes (C F : Nat → Int) (n : Nat) (i above : Int) (ok ok' : Bool) (bs bs' : List Bool) : Prop :=
  ∀ s : SH, ok = true → s.At C F n i above → s.ids.Nodup → (∀ k ∈ s.ids, bs[k]? = some false) → ok' = true ∧ ∀ k, k ∉ s.ids → bs'[k]? = bs[k]?

theorem yes_none {C F : Nat → Int} {n : Nat} {above : Int} {ok : Bool} {bs : List Bool} : Yes C F n (-1) above ok ok bs bs := fun s h hs _ _ => ⟨h, fun _ _ => rfl⟩
theorem yes_false {C F : Nat → Int} {n : Nat} {i above : Int} {ok' : Bool} {bs bs' : List Bool} : Yes C F n i above false ok' bs bs' := fun s h => by cases h
theorem yes_seen {C F : Nat → Int} {n k : Nat} {above : Int} {ok ok' : Bool} {bs bs' : List Bool} (h : bs[k]? = some true) : Yes C F n k above ok ok' bs bs' := by
  intro s _ hs _ hb
  cases s with
  | nil => have : (k : Int) = -1 := hs; omega
  | node j l r =>
    obtain ⟨e, _⟩ := hs
    obtain rfl : k = j := by omega
    have := hb k (by simp [SH.ids])
    rw [h] at this
    cases this
theorem yes_out {C F : Nat → Int} {n : Nat} {i above : Int} {ok ok' : Bool} {bs bs' : List Bool} (h : ¬ above < i ∨ ¬ i < n) (hi : i ≠ -1) : Yes C F n i above ok ok' bs bs' := by
  intro s _ hs _ _
  cases s with
  | nil => exact absurd hs hi
  | node j l r => obtain ⟨e, h1, h2, _⟩ := hs; omega

theorem yes_node {C F : Nat → Int} {n k : Nat} {above : Int} {ok2 ok3 : Bool} {bs bs2 bs3 : List Bool} (eb : bs[k]? = some false) (h2 : Yes C F n (C k) k true ok2 (bs.set k true) bs2) (h3 : Yes C F n (F k) k ok2 ok3 bs2 bs3) : Yes C F n k above true ok3 bs bs3 := by
  intro s _ hs hn hb
  cases s with
  | nil => have : (k : Int) = -1 := hs; omega
  | node j l r =>
    obtain ⟨e, a1, a2, a3, a4⟩ := hs
    obtain rfl : k = j := by omega
    obtain ⟨n1, n2⟩ := List.nodup_cons.1 hn
    obtain ⟨n3, n4, n5⟩ := List.nodup_append.1 n2
    have hset : ∀ j, j ≠ k → (bs.set k true)[j]? = bs[j]? := fun j hj => List.getElem?_set_ne (Ne.symm hj)
    obtain ⟨e2, f2⟩ := h2 l rfl a3 n3 fun j hj => by
      rw [hset j (fun e => n1 (e ▸ List.mem_append.2 (.inl hj)))]
      exact hb j (by simp [SH.ids, hj])
    obtain ⟨e3, f3⟩ := h3 r e2 a4 n4 fun j hj => by
      rw [f2 j (fun h => n5 j h j hj rfl), hset j (fun e => n1 (e ▸ List.mem_append.2 (.inr hj)))]
      exact hb j (by simp [SH.ids, hj])
    refine ⟨e3, fun j hj => ?_⟩
    simp only [SH.ids, List.mem_cons, List.mem_append, not_or] at hj
    rw [f3 j hj.2.2, f2 j hj.2.1, hset j hj.1]

theorem rep_false {n k : Nat} (h : k < n) : (List.replicate n false)[k]? = some false := by simp [h]
end Lox
