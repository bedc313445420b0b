/-
  THE STATE OF components, in memory, for seat b6600314a.
-/
import Derived.Test.Qxb6600314aMeet
namespace Go.Proofs.Qxb6600314a
open Go.RowKit
set_option linter.unusedVariables false

section
variable {w wr : World} {x : Fx} {S : List Nat} {C : List (Nat × Nat)}

theorem calls_len (C : List (Nat × Nat)) : (calls C).length = C.length * 2 := by
  induction C with
  | nil => rfl
  | cons p C ih => simp only [calls, List.flatMap_cons, List.length_append, List.length_cons, List.length_nil] at ih ⊢; omega
theorem ints_len (S : List Nat) : (ints S).length = S.length := by simp [ints]

theorem calls_top0 (C : List (Nat × Nat)) (a k : Nat) : (calls (C ++ [(a, k)]))[C.length * 2]? = some (.int .i64 (a : Int)) := by
  rw [← calls_snoc, List.getElem?_append_right (by rw [calls_len]; exact Nat.le_refl _), calls_len, Nat.sub_self]
  rfl
theorem calls_top1 (C : List (Nat × Nat)) (a k : Nat) : (calls (C ++ [(a, k)]))[C.length * 2 + 1]? = some (.int .i64 (k : Int)) := by
  rw [← calls_snoc, List.getElem?_append_right (by rw [calls_len]; omega), calls_len, show C.length * 2 + 1 - C.length * 2 = 1 from by omega]
  rfl
theorem calls_bump (C : List (Nat × Nat)) (a k k' : Nat) : (calls (C ++ [(a, k)])).set (C.length * 2 + 1) (.int .i64 (k' : Int)) = calls (C ++ [(a, k')]) := by
  rw [← calls_snoc, ← calls_snoc, List.set_append_right _ _ (by rw [calls_len]; omega), calls_len, show C.length * 2 + 1 - C.length * 2 = 1 from by omega]
  rfl

theorem Mem.formC (h : Mem w wr x S C) : ∃ p cap, x.v2 = .slice p C.length cap := by
  rcases h.ca.2 with ⟨h1, h2⟩ | ⟨g, cap, cur, hv, _⟩
  · exact ⟨none, 0, by rw [h1, h2]⟩
  · exact ⟨_, _, hv⟩
/-- The top of the calls. -/
theorem Mem.topC {a k : Nat} (h : Mem w wr x S (C ++ [(a, k)])) : ∃ g cap, x.v2 = .slice (some ⟨g, 0, none⟩) (C.length + 1) cap ∧ wr.cell? ⟨g, C.length * 2, none⟩ = some (.int .i64 (a : Int)) ∧ wr.cell? ⟨g, C.length * 2 + 1, none⟩ = some (.int .i64 (k : Int)) ∧ (∀ j, wr.frozen? ⟨g, j, none⟩ = false) ∧ C.length + 1 ≤ cap ∧ w.heap.size + 10 ≤ g := by
  have hc := h.ca
  rw [List.length_append, show [(a, k)].length = 1 from rfl] at hc
  rcases hc.2 with ⟨_, h'⟩ | ⟨g, cap, cur, hv, hb, hg, hn, _⟩
  · omega
  · rw [hv] at hc
    refine ⟨g, cap, hv, ?_, ?_, hc.frozenAt, hn, hb⟩
    · rw [hc.cellAt _ (by omega), calls_top0]
    · rw [hc.cellAt _ (by omega), calls_top1]
/-- The top of the stack. -/
theorem Mem.topS {a : Nat} (h : Mem w wr x (S ++ [a]) C) : ∃ g cap, x.v1 = .slice (some ⟨g, 0, none⟩) (S.length + 1) cap ∧ wr.cell? ⟨g, S.length, none⟩ = some (.int .i64 (a : Int)) ∧ S.length + 1 ≤ cap ∧ w.heap.size + 10 ≤ g := by
  have hc := h.st
  rw [List.length_append, show [a].length = 1 from rfl] at hc
  rcases hc.2 with ⟨_, h'⟩ | ⟨g, cap, cur, hv, hb, hg, hn, _⟩
  · omega
  · rw [hv] at hc
    refine ⟨g, cap, hv, ?_, hn, hb⟩
    rw [hc.cellAt _ (by omega), ← ints_snoc, List.getElem?_append_right (by rw [ints_len]; exact Nat.le_refl _), ints_len, Nat.sub_self]
    rfl

theorem Mem.popS {a g cap : Nat} (h : Mem w wr x (S ++ [a]) C) (hv : x.v1 = .slice (some ⟨g, 0, none⟩) (S.length + 1) cap) : Mem w (wr.setCell ⟨w.heap.size + 7, 0, none⟩ (.slice (some ⟨g, 0, none⟩) S.length cap)) { x with v1 := .slice (some ⟨g, 0, none⟩) S.length cap } S C := by
  have hs := h.st
  rw [hv, List.length_append, ← ints_snoc] at hs
  exact h.newS (World.grownBy.refl _ _) (ownsRow_pop (by rw [ints_len]; omega) hs) (.inl (by rw [hv]; rfl))
theorem Mem.popC {a k g cap : Nat} (h : Mem w wr x S (C ++ [(a, k)])) (hv : x.v2 = .slice (some ⟨g, 0, none⟩) (C.length + 1) cap) : Mem w (wr.setCell ⟨w.heap.size + 9, 0, none⟩ (.slice (some ⟨g, 0, none⟩) C.length cap)) { x with v2 := .slice (some ⟨g, 0, none⟩) C.length cap } S C := by
  have hs := h.ca
  rw [hv, List.length_append, ← calls_snoc] at hs
  exact h.newC (World.grownBy.refl _ _) (ownsRow_pop (by rw [calls_len]) hs) (.inl (by rw [hv]; rfl))
theorem Mem.bump {a k k' g cap : Nat} (h : Mem w wr x S (C ++ [(a, k)])) (hv : x.v2 = .slice (some ⟨g, 0, none⟩) (C.length + 1) cap) : Mem w (wr.setCell ⟨g, C.length * 2 + 1, none⟩ (.int .i64 (k' : Int))) x S (C ++ [(a, k')]) := by
  have hs := h.ca
  rw [List.length_append, hv] at hs
  obtain ⟨h1, h2⟩ := World.ownsRow.stored hs (C.length * 2 + 1) (.int .i64 (k' : Int))
  rw [calls_bump] at h1
  have hgb := (h.b2 (g := g) (by rw [hv]; rfl)).1
  have hb : ∀ q, q ≠ g → (wr.setCell ⟨g, C.length * 2 + 1, none⟩ (.int .i64 (k' : Int))).heap[q]? = wr.heap[q]? := fun q hq => Below.heap_setCell _ _ _ _ hq
  refine ⟨h.below.setCell (by simp; omega) _, fun i hi => (hb _ (by omega)).trans (h.blk i hi), owns_block h.st fun q hq hlt => hb q (fun e => h.ne q hq (by rw [hv, e]; rfl)), ?_, h.ne⟩
  rw [hv, List.length_append]
  exact h1
end

/-- The calls. -/
def frs (fr : List Frame) : List (Nat × Nat) := fr.reverse.map fun f => (f.at', f.next)
theorem frs_cons (f : Frame) (fr : List Frame) : frs (f :: fr) = frs fr ++ [(f.at', f.next)] := by simp [frs]
theorem frs_len (fr : List Frame) : (frs fr).length = fr.length := by simp [frs]

def unmet (n : Nat) (o : Nat → Nat) : Nat := ((List.range n).map fun v => if o v = 0 then 1 else 0).sum
def todo (deps : Nat → List Nat) (n : Nat) (o : Nat → Nat) : Nat := ((List.range n).map fun v => if o v = 0 then (deps v).length + 2 else 0).sum
def left (deps : Nat → List Nat) : List Frame → Nat
  | [] => 0
  | f :: r => ((deps f.at').length - f.next + 1) + left deps r
def rank (deps : Nat → List Nat) (n : Nat) (s : TS) : Nat := todo deps n s.order + left deps s.fr

theorem sum_one (g g' : Nat → Nat) {a : Nat} (hne : ∀ v, v ≠ a → g' v = g v) : ∀ n, a < n → ((List.range n).map g').sum + g a = ((List.range n).map g).sum + g' a := by
  intro n
  have hpre : ∀ m, m ≤ a → ((List.range m).map g').sum = ((List.range m).map g).sum := by
    intro m
    induction m with
    | zero => intro _; rfl
    | succ m ih =>
      intro hm
      rw [List.range_succ, List.map_append, List.map_append, List.sum_append, List.sum_append, ih (by omega)]
      simp [hne m (by omega)]
  induction n with
  | zero => intro h; omega
  | succ n ih =>
    intro h
    rw [List.range_succ, List.map_append, List.map_append, List.sum_append, List.sum_append]
    simp only [List.map_cons, List.map_nil, List.sum_cons, List.sum_nil, Nat.add_zero]
    by_cases e : a = n
    · subst e
      rw [hpre a (Nat.le_refl _)]
      omega
    · have := ih (by omega)
      rw [hne n (fun h => e h.symm)]
      omega

theorem unmet_meet {n : Nat} {o : Nat → Nat} {a b : Nat} (ha : a < n) (h0 : o a = 0) (hb : b ≠ 0) : unmet n (upd o a b) + 1 = unmet n o := by
  have := sum_one (fun v => if o v = 0 then 1 else 0) (fun v => if upd o a b v = 0 then 1 else 0) (a := a) (fun v hv => by simp only [upd_other _ _ hv]) n ha
  simp only [upd_same, h0, hb, if_true, if_false] at this
  exact this
theorem todo_meet {deps : Nat → List Nat} {n : Nat} {o : Nat → Nat} {a b : Nat} (ha : a < n) (h0 : o a = 0) (hb : b ≠ 0) : todo deps n (upd o a b) + (deps a).length + 2 = todo deps n o := by
  have := sum_one (fun v => if o v = 0 then (deps v).length + 2 else 0) (fun v => if upd o a b v = 0 then (deps v).length + 2 else 0) (a := a) (fun v hv => by simp only [upd_other _ _ hv]) n ha
  simp only [upd_same, h0, hb, if_true, if_false] at this
  unfold todo
  omega

/-- THE STATE. -/
structure TI (w wr : World) (deps : Nat → List Nat) (n : Nat) (s : TS) : Prop where
  inv : TInv deps n s
  mem : ∃ k v1 v2, (∀ v, k v = decide (v ∈ stackOf s.fr)) ∧ Mem w wr ⟨n, s.order, s.low, k, s.comp, s.met, v1, v2⟩ (stackOf s.fr).reverse (frs s.fr)
  cnt : s.met + unmet n s.order = n
  fnd : s.found + (stackOf s.fr).length ≤ s.met

theorem nodup_bound : ∀ (n : Nat) (l : List Nat), l.Nodup → (∀ v ∈ l, v < n) → l.length ≤ n := by
  intro n
  induction n with
  | zero =>
    intro l hd hb
    cases l with
    | nil => simp
    | cons a l => have := hb a (by simp); omega
  | succ n ih =>
    intro l hd hb
    have h1 := ih (l.erase n) (hd.erase n) (fun v hv => by
      have h2 := (hd.mem_erase_iff).1 hv
      have := hb v h2.2
      have := h2.1
      omega)
    rw [List.length_erase] at h1
    split at h1 <;> omega

theorem TInv.stack_len {deps : Nat → List Nat} {n : Nat} {s : TS} (h : TInv deps n s) : (stackOf s.fr).length ≤ n := by
  refine nodup_bound n _ (h.ord.imp (fun {a b} hab e => ?_)) (fun v hv => h.bnd v (h.pos v hv))
  rw [e] at hab
  omega
theorem fr_le_stack (fr : List Frame) : fr.length ≤ (stackOf fr).length := by
  induction fr with
  | nil => simp
  | cons f r ih => simp only [stackOf, List.length_cons, List.length_append]; omega

section
variable {w wr w' : World} {deps : Nat → List Nat} {n : Nat} {s : TS} {f g : Frame} {rest r : List Frame} {k : Nat → Bool} {v1 v2 : Value} {a b : Nat}

theorem TI.bounds (h : TI w wr deps n s) : s.met ≤ n ∧ (stackOf s.fr).length ≤ n ∧ s.fr.length ≤ n ∧ s.found ≤ n := by
  have h1 := h.cnt
  have h2 := h.inv.stack_len
  have h3 := fr_le_stack s.fr
  have h4 := h.fnd
  omega

theorem stack_top (fr : List Frame) (a i : Nat) : stackOf (⟨a, i, []⟩ :: fr) = a :: stackOf fr := rfl

theorem k_meet {fr : List Frame} (hk : ∀ v, k v = decide (v ∈ stackOf fr)) (a i : Nat) : ∀ v, updB k a true v = decide (v ∈ stackOf (⟨a, i, []⟩ :: fr)) := by
  intro v
  rw [stack_top]
  unfold updB
  by_cases e : v = a
  · simp [e]
  · simp [e, hk]

theorem upd_ne0 {o : Nat → Nat} {a b v : Nat} (h : o v ≠ 0) : upd o a (b + 1) v ≠ 0 := by
  unfold upd
  split
  · omega
  · exact h

theorem TI.stepRoot (h : TI w wr deps n s) (hfr : s.fr = []) (ha : a < n) (h0 : s.order a = 0) (hk : ∀ v, k v = decide (v ∈ stackOf s.fr))
    (hm : Mem w w' ⟨n, upd s.order a (s.met + 1), upd s.low a (s.met + 1), updB k a true, s.comp, s.met + 1, v1, v2⟩ ((stackOf s.fr).reverse ++ [a]) (frs s.fr ++ [(a, 0)])) : TI w w' deps n ⟨upd s.order a (s.met + 1), upd s.low a (s.met + 1), s.comp, ⟨a, 0, []⟩ :: s.fr, s.met + 1, s.found⟩ := by
  refine ⟨h.inv.meet ha h0 (by rw [hfr]; simp), ⟨_, v1, v2, k_meet hk a 0, ?_⟩, ?_, ?_⟩
  · rw [stack_top, List.reverse_cons, frs_cons]
    exact hm
  · have := unmet_meet (n := n) (o := s.order) (b := s.met + 1) ha h0 (by omega)
    have := h.cnt
    show s.met + 1 + unmet n (upd s.order a (s.met + 1)) = n
    omega
  · have := h.fnd
    simp only [stack_top, List.length_cons]
    omega

theorem TI.stepRoot' (h : TI w wr deps n s) (hfr : s.fr = []) (ha : a < n) (h0 : s.order a = 0) (hk : ∀ v, k v = decide (v ∈ stackOf s.fr))
    (hm : Mem w w' ⟨n, upd s.order a (s.met + 1), upd s.low a (s.met + 1), updB k a true, s.comp, s.met + 1, v1, v2⟩ ((stackOf s.fr).reverse ++ [a]) (frs s.fr ++ [(a, 0)])) : ∃ s', TI w w' deps n s' ∧ s'.found = s.found ∧ (∀ v, s.order v ≠ 0 → s'.order v ≠ 0) ∧ s'.order a ≠ 0 :=
  ⟨_, h.stepRoot hfr ha h0 hk hm, rfl, fun v hv => upd_ne0 hv, by simp [upd_same]⟩

theorem TI.stepMeet (h : TI w wr deps n s) (hfr : s.fr = f :: rest) (hw : (deps f.at')[f.next]? = some b) (hb : b < n) (h0 : s.order b = 0) (hk : ∀ v, k v = decide (v ∈ stackOf s.fr))
    (hm : Mem w w' ⟨n, upd s.order b (s.met + 1), upd s.low b (s.met + 1), updB k b true, s.comp, s.met + 1, v1, v2⟩ ((stackOf s.fr).reverse ++ [b]) (frs rest ++ [(f.at', f.next + 1)] ++ [(b, 0)])) : ∃ s', TI w w' deps n s' ∧ rank deps n s' < rank deps n s ∧ s'.found = s.found ∧ ∀ v, s.order v ≠ 0 → s'.order v ≠ 0 := by
  have hlt : f.next < (deps f.at').length := (List.getElem?_eq_some_iff.1 hw).1
  have hs : stackOf s.fr = stackOf (⟨f.at', f.next + 1, f.seg⟩ :: rest) := by rw [hfr]; rfl
  rw [hs] at hk hm
  refine ⟨_, ⟨h.inv.meetFrom hfr hw hb h0, ⟨_, v1, v2, k_meet hk b 0, ?_⟩, ?_, ?_⟩, ?_, rfl, fun v hv => upd_ne0 hv⟩
  · rw [stack_top, List.reverse_cons, frs_cons, frs_cons]
    exact hm
  · have := unmet_meet (n := n) (o := s.order) (b := s.met + 1) hb h0 (by omega)
    have := h.cnt
    show s.met + 1 + unmet n (upd s.order b (s.met + 1)) = n
    omega
  · have := h.fnd
    rw [hs] at this
    simp only [stack_top, List.length_cons]
    omega
  · have := todo_meet (deps := deps) (n := n) (o := s.order) (b := s.met + 1) hb h0 (by omega)
    simp only [rank, hfr, left]
    omega

theorem TI.stepLook (h : TI w wr deps n s) (hfr : s.fr = f :: rest) (hw : (deps f.at')[f.next]? = some b) (h0 : s.order b ≠ 0) (hk : ∀ v, k v = decide (v ∈ stackOf s.fr)) {low' : Nat → Nat}
    (hl1 : k b = true → ∀ x, low' x = upd s.low f.at' (min (s.low f.at') (s.order b)) x) (hl2 : k b = false → ∀ x, low' x = s.low x)
    (hm : Mem w w' ⟨n, s.order, low', k, s.comp, s.met, v1, v2⟩ (stackOf s.fr).reverse (frs rest ++ [(f.at', f.next + 1)])) : ∃ s', TI w w' deps n s' ∧ rank deps n s' < rank deps n s ∧ s'.found = s.found ∧ ∀ v, s.order v ≠ 0 → s'.order v ≠ 0 := by
  have hlt : f.next < (deps f.at').length := (List.getElem?_eq_some_iff.1 hw).1
  have hs : stackOf s.fr = stackOf (⟨f.at', f.next + 1, f.seg⟩ :: rest) := by rw [hfr]; rfl
  have hi := h.inv.look hfr hw h0 (low' := low') (fun e => hl1 (by rw [hk]; simpa using e)) (fun e => hl2 (by rw [hk]; simpa using e))
  rw [hs] at hk hm
  refine ⟨_, ⟨hi, ⟨k, v1, v2, hk, ?_⟩, h.cnt, ?_⟩, ?_, rfl, fun v hv => hv⟩
  · rw [frs_cons]
    exact hm
  · have := h.fnd
    rw [hs] at this
    exact this
  · simp only [rank, hfr, left]
    omega

theorem TI.stepMerge (h : TI w wr deps n s) (hfr : s.fr = f :: g :: r) (hn : (deps f.at').length ≤ f.next) (hne : s.low f.at' ≠ s.order f.at') (hk : ∀ v, k v = decide (v ∈ stackOf s.fr))
    (hm : Mem w w' ⟨n, s.order, upd s.low g.at' (min (s.low g.at') (s.low f.at')), k, s.comp, s.met, v1, v2⟩ (stackOf s.fr).reverse (frs (g :: r))) : ∃ s', TI w w' deps n s' ∧ rank deps n s' < rank deps n s ∧ s'.found = s.found ∧ ∀ v, s.order v ≠ 0 → s'.order v ≠ 0 := by
  have hs : stackOf s.fr = stackOf (⟨g.at', g.next, f.seg ++ f.at' :: g.seg⟩ :: r) := by rw [hfr]; simp [stackOf]
  rw [hs] at hk hm
  refine ⟨_, ⟨h.inv.merge hfr hn hne, ⟨k, v1, v2, hk, ?_⟩, h.cnt, ?_⟩, ?_, rfl, fun v hv => hv⟩
  · rw [frs_cons] at hm ⊢
    exact hm
  · have := h.fnd
    rw [hs] at this
    exact this
  · simp only [rank, hfr, left]
    omega

theorem TI.stepClose (h : TI w wr deps n s) (hfr : s.fr = f :: rest) (hn : (deps f.at').length ≤ f.next) (heq : s.low f.at' = s.order f.at') {comp' low' : Nat → Nat}
    (hc1 : ∀ v, v ∈ f.seg ∨ v = f.at' → comp' v = s.found) (hc2 : ∀ v, ¬ (v ∈ f.seg ∨ v = f.at') → comp' v = s.comp v) (hlow : ∀ g ∈ rest, low' g.at' = s.low g.at') (hk : ∀ v, k v = decide (v ∈ stackOf rest))
    (hm : Mem w w' ⟨n, s.order, low', k, comp', s.met, v1, v2⟩ (stackOf rest).reverse (frs rest)) : ∃ s', TI w w' deps n s' ∧ rank deps n s' < rank deps n s ∧ s'.found = s.found + 1 ∧ ∀ v, s.order v ≠ 0 → s'.order v ≠ 0 := by
  refine ⟨_, ⟨h.inv.close hfr hn heq hc1 hc2 hlow, ⟨k, v1, v2, hk, hm⟩, h.cnt, ?_⟩, ?_, rfl, fun v hv => hv⟩
  · have := h.fnd
    rw [hfr] at this
    simp only [stackOf, List.length_append, List.length_cons] at this ⊢
    omega
  · simp only [rank, hfr, left]
    omega

/-- The lows behind a return. -/
def lowB (low : Nat → Nat) (a : Nat) : List Frame → Nat → Nat
  | [] => low
  | g :: _ => upd low g.at' (min (low g.at') (low a))

theorem TInv.nodup (h : TInv deps n s) : (stackOf s.fr).Nodup := h.ord.imp (fun {a b} hab e => by rw [e] at hab; omega)

theorem TInv.lowB_at (h : TInv deps n s) {a i : Nat} {sg : List Nat} (hfr : s.fr = ⟨a, i, sg⟩ :: rest) : lowB s.low a rest a = s.low a := by
  cases rest with
  | nil => rfl
  | cons g r =>
    refine upd_other _ _ (fun e => ?_)
    have h2 := (h.split hfr).2.1 g.at' (at_mem_stack (by simp))
    rw [← e] at h2
    exact Nat.lt_irrefl _ h2

/-- The loop that pops a component. -/
structure PS (w wr : World) (n : Nat) (s : TS) (a : Nat) (sg : List Nat) (rest : List Frame) (low' : Nat → Nat) (v2 : Value) (P T : List Nat) : Prop where
  seg : sg = P ++ T
  mem : ∃ k comp' v1, (∀ v, k v = decide (v ∈ T ++ a :: stackOf rest)) ∧ (∀ v, comp' v = if v ∈ P then s.found else s.comp v) ∧ Mem w wr ⟨n, s.order, low', k, comp', s.met, v1, v2⟩ (T ++ a :: stackOf rest).reverse (frs rest)

theorem pop_k {t : Nat} {L : List Nat} (hk : ∀ v, k v = decide (v ∈ t :: L)) (hnd : (t :: L).Nodup) : ∀ v, updB k t false v = decide (v ∈ L) := by
  intro v
  unfold updB
  by_cases e : v = t
  · have := (List.nodup_cons.1 hnd).1
    simp [e, this]
  · simp [e, hk]

theorem PS.step {a i t g cap : Nat} {sg P T : List Nat} {low' comp' : Nat → Nat} (hfr : s.fr = ⟨a, i, sg⟩ :: rest) (hi : TInv deps n s) (hs : sg = P ++ t :: T) (hk : ∀ v, k v = decide (v ∈ t :: T ++ a :: stackOf rest)) (hc : ∀ v, comp' v = if v ∈ P then s.found else s.comp v)
    (hm : Mem w wr ⟨n, s.order, low', k, comp', s.met, .slice (some ⟨g, 0, none⟩) ((T ++ a :: stackOf rest).reverse.length + 1) cap, v2⟩ ((T ++ a :: stackOf rest).reverse ++ [t]) (frs rest)) :
    PS w (((wr.setCell ⟨w.heap.size + 7, 0, none⟩ (.slice (some ⟨g, 0, none⟩) (T ++ a :: stackOf rest).reverse.length cap)).setCell ⟨w.heap.size + 4, t, none⟩ (.bool false)).setCell ⟨w.heap.size + 6, t, none⟩ (.int .i64 (s.found : Int))) n s a sg rest low' v2 (P ++ [t]) T := by
  have hnd := hi.nodup
  rw [hfr] at hnd
  have hnd2 : (P ++ (t :: (T ++ a :: stackOf rest))).Nodup := by
    have e : stackOf (⟨a, i, sg⟩ :: rest) = P ++ (t :: (T ++ a :: stackOf rest)) := by simp [stackOf, hs]
    rw [e] at hnd
    exact hnd
  refine ⟨by rw [hs]; simp, _, _, _, pop_k hk (List.nodup_append.1 hnd2).2.1, fun v => ?_, (((hm.popS rfl).setK t false).setC t s.found)⟩
  dsimp only
  by_cases e : v = t
  · simp [e, upd_same]
  · simp [upd_other _ _ e, hc, e]

/-- The caller's low stands where a component is closed. -/
theorem TInv.low_kept (h : TInv deps n s) (hfr : s.fr = f :: g :: r) (heq : s.low f.at' = s.order f.at') : min (s.low g.at') (s.low f.at') = s.low g.at' := by
  have hfo := h.frok
  rw [hfr] at hfo
  have h1 := hfo.tail.2.2.1
  have h2 := (h.split hfr).2.1 g.at' (at_mem_stack (by simp))
  omega

theorem PS.last {a i g cap : Nat} {sg : List Nat} {comp' : Nat → Nat} (h : TI w w' deps n s) (hn : (deps a).length ≤ i) (heq : s.low a = s.order a) (hfr : s.fr = ⟨a, i, sg⟩ :: rest) (hk : ∀ v, k v = decide (v ∈ a :: stackOf rest)) (hc : ∀ v, comp' v = if v ∈ sg then s.found else s.comp v)
    (hm : Mem w wr ⟨n, s.order, lowB s.low a rest, k, comp', s.met, .slice (some ⟨g, 0, none⟩) ((stackOf rest).reverse.length + 1) cap, v2⟩ ((stackOf rest).reverse ++ [a]) (frs rest)) :
    ∃ s', TI w (((wr.setCell ⟨w.heap.size + 7, 0, none⟩ (.slice (some ⟨g, 0, none⟩) (stackOf rest).reverse.length cap)).setCell ⟨w.heap.size + 4, a, none⟩ (.bool false)).setCell ⟨w.heap.size + 6, a, none⟩ (.int .i64 (s.found : Int))) deps n s' ∧ rank deps n s' < rank deps n s ∧ s'.found = s.found + 1 ∧ ∀ v, s.order v ≠ 0 → s'.order v ≠ 0 := by
  have hnd := h.inv.nodup
  rw [hfr] at hnd
  refine h.stepClose hfr hn heq (fun v hv => ?_) (fun v hv => ?_) (fun g hg => ?_) (pop_k hk (List.nodup_append.1 hnd).2.1) (((hm.popS rfl).setK a false).setC a s.found)
  · dsimp only at hv ⊢
    by_cases e : v = a
    · simp [e, upd_same]
    · simp [upd_other _ _ e, hc, hv.resolve_right e]
  · dsimp only at hv ⊢
    have e1 : v ≠ a := fun e => hv (.inr e)
    have e2 : v ∉ sg := fun e => hv (.inl e)
    simp [upd_other _ _ e1, hc, e2]
  · cases rest with
    | nil => cases hg
    | cons g0 r =>
      show upd s.low g0.at' (min (s.low g0.at') (s.low a)) g.at' = s.low g.at'
      have := h.inv.low_kept hfr heq
      dsimp only at this
      rw [this]
      unfold upd
      split
      · next e => rw [e]
      · rfl
end
end Go.Proofs.Qxb6600314a
