/-
  PLAIN LAW for seat b6600314a: the breadth-first search inside one component.
-/
import Derived.Test.Qxb6600314aSteps
namespace Go.Proofs.Qxb6600314a
set_option linter.unusedVariables false

/-- The distance. -/
def IsDist (deps : Nat → List Nat) (u v k : Nat) : Prop := Walk deps k u v ∧ ∀ m, Walk deps m u v → k ≤ m

theorem Walk.snoc {deps : Nat → List Nat} {k u v x : Nat} (h : Walk deps k u v) (hx : x ∈ deps v) : Walk deps (k + 1) u x := h.trans (m := 1) ⟨x, hx, rfl⟩
/-- The last step of a walk. -/
theorem Walk.last {deps : Nat → List Nat} : ∀ {k u v}, Walk deps (k + 1) u v → ∃ x, Walk deps k u x ∧ v ∈ deps x := by
  intro k
  induction k with
  | zero =>
    intro u v h
    obtain ⟨x, hx, e⟩ := h
    have e : x = v := e
    subst e
    exact ⟨u, rfl, hx⟩
  | succ k ih =>
    intro u v h
    obtain ⟨x, hx, h⟩ := h
    obtain ⟨y, hy, hv⟩ := ih h
    exact ⟨y, ⟨x, hx, hy⟩, hv⟩

theorem Walk.bound {deps : Nat → List Nat} {n : Nat} (hb : ∀ i, i < n → ∀ v ∈ deps i, v < n) : ∀ {k u v}, u < n → Walk deps k u v → v < n := by
  intro k
  induction k with
  | zero => intro u v hu h; cases h; exact hu
  | succ k ih =>
    intro u v hu h
    obtain ⟨x, hx, h⟩ := h
    exact ih (hb u hu x hx) h
theorem Walk.comp_le {deps : Nat → List Nat} {n : Nat} {comp : Nat → Nat} (hb : ∀ i, i < n → ∀ v ∈ deps i, v < n) (hC : Comps deps n comp) : ∀ {k u v}, u < n → Walk deps k u v → comp v ≤ comp u := by
  intro k
  induction k with
  | zero => intro u v hu h; cases h; exact Nat.le_refl _
  | succ k ih =>
    intro u v hu h
    obtain ⟨x, hx, h⟩ := h
    exact Nat.le_trans (ih (hb u hu x hx) h) (hC.mono u hu x hx)

/-- What stands at every round: cf: who was met from where; d: the distance; q: the queue. -/
structure BI (deps : Nat → List Nat) (n : Nat) (comp : Nat → Nat) (st en : Nat) (cf : Nat → Option Nat) (d : Nat → Nat) (q : List Nat) : Prop where
  st0 : cf st = some st ∧ d st = 0
  seen : ∀ v u, cf v = some u → v < n ∧ comp v = comp st ∧ (v = st ∨ ((∃ x, cf u = some x) ∧ v ∈ deps u ∧ d v = d u + 1))
  nost : ∀ v u, cf v = some u → d v = 0 → v = st
  qseen : ∀ v ∈ q, ∃ u, cf v = some u
  qord : q.Pairwise fun a b => d a ≤ d b ∧ d b ≤ d a + 1
  done : ∀ v u, cf v = some u → v ∉ q → v ≠ en ∧ ∀ w ∈ deps v, comp w = comp st → (∃ x, cf w = some x) ∧ d w ≤ d v + 1
  nd : q.Nodup
  old : ∀ v u, cf v = some u → v ∉ q → ∀ x ∈ q, d v ≤ d x

/-- .. and inside a round: the head a, its first i dependencies looked at. -/
structure BI2 (deps : Nat → List Nat) (n : Nat) (comp : Nat → Nat) (st en : Nat) (cf : Nat → Option Nat) (d : Nat → Nat) (a : Nat) (q : List Nat) (i : Nat) : Prop where
  base : BI deps n comp st en cf d (a :: q)
  ne : a ≠ en
  part : ∀ w ∈ (deps a).take i, comp w = comp st → (∃ x, cf w = some x) ∧ d w ≤ d a + 1

def setC (cf : Nat → Option Nat) (a b : Nat) : Nat → Option Nat := fun x => if x = a then some b else cf x
theorem setC_same (cf : Nat → Option Nat) (a b : Nat) : setC cf a b a = some b := by simp [setC]
theorem setC_other (cf : Nat → Option Nat) {a x : Nat} (b : Nat) (h : x ≠ a) : setC cf a b x = cf x := by simp [setC, h]

section
variable {deps : Nat → List Nat} {n : Nat} {comp : Nat → Nat} {st en : Nat} {cf : Nat → Option Nat} {d : Nat → Nat} {a : Nat} {q : List Nat} {i : Nat}

theorem bi_start (h : st < n) : BI deps n comp st en (setC (fun _ => none) st st) (fun _ => 0) [st] := by
  have key : ∀ v u, setC (fun _ => none) st st v = some u → v = st := fun v u h => by
    by_cases e : v = st
    · exact e
    · rw [setC_other _ _ e] at h; cases h
  refine ⟨⟨setC_same _ _ _, rfl⟩, fun v u hv => ?_, fun v u hv _ => key v u hv, fun v hv => ?_, ?_, fun v u hv hq => ?_, ?_, fun v u hv hq => ?_⟩
  · have := key v u hv
    subst this
    exact ⟨h, rfl, .inl rfl⟩
  · have : v = st := by simpa using hv
    subst this
    exact ⟨v, setC_same _ _ _⟩
  · simp
  · exact absurd (key v u hv) (by simpa using hq)
  · simp
  · exact absurd (key v u hv) (by simpa using hq)

theorem BI.enter (h : BI deps n comp st en cf d (a :: q)) (hne : a ≠ en) : BI2 deps n comp st en cf d a q 0 := ⟨h, hne, fun w hw => by simp at hw⟩

/-- A dependency that is not new, or not of the component. -/
theorem BI2.skip (h : BI2 deps n comp st en cf d a q i) {w : Nat} (hw : (deps a)[i]? = some w) (hs : (∃ x, cf w = some x) ∨ comp w ≠ comp st) : BI2 deps n comp st en cf d a q (i + 1) := by
  refine ⟨h.base, h.ne, fun x hx hc => ?_⟩
  rcases take_bump hw hx with hx | rfl
  · exact h.part x hx hc
  · rcases hs with ⟨u, hu⟩ | hs
    · refine ⟨⟨u, hu⟩, ?_⟩
      by_cases hq : x ∈ a :: q
      · rcases List.mem_cons.1 hq with rfl | hq
        · omega
        · exact ((List.pairwise_cons.1 h.base.qord).1 x hq).2
      · have := h.base.old x u hu hq a (by simp)
        omega
    · exact absurd hc hs

/-- A new one. -/
theorem BI2.add (hb : ∀ i, i < n → ∀ v ∈ deps i, v < n) (h : BI2 deps n comp st en cf d a q i) {w : Nat} (hw : (deps a)[i]? = some w) (hn : cf w = none) (hc : comp w = comp st) :
    BI2 deps n comp st en (setC cf w a) (upd d w (d a + 1)) a (q ++ [w]) (i + 1) := by
  obtain ⟨ua, hua⟩ := h.base.qseen a (by simp)
  have hmem : w ∈ deps a := List.mem_of_getElem? hw
  have hne : ∀ v u, cf v = some u → v ≠ w := fun v u hv e => by rw [e, hn] at hv; cases hv
  have hk : ∀ v u, cf v = some u → setC cf w a v = some u ∧ upd d w (d a + 1) v = d v := fun v u hv => ⟨(setC_other _ _ (hne v u hv)).trans hv, upd_other _ _ (hne v u hv)⟩
  have hinv : ∀ v u, setC cf w a v = some u → (v = w ∧ u = a) ∨ (cf v = some u ∧ v ≠ w) := fun v u hv => by
    by_cases e : v = w
    · rw [e, setC_same] at hv
      exact .inl ⟨e, (Option.some.inj hv).symm⟩
    · rw [setC_other _ _ e] at hv
      exact .inr ⟨hv, e⟩
  have ha := hk a ua hua
  have hdq : ∀ x ∈ a :: q, upd d w (d a + 1) x = d x := fun x hx => by
    obtain ⟨u, hu⟩ := h.base.qseen x hx
    exact (hk x u hu).2
  have hwq : w ∉ a :: q := fun e => by
    obtain ⟨u, hu⟩ := h.base.qseen w e
    rw [hn] at hu; cases hu
  have hqq : a :: (q ++ [w]) = (a :: q) ++ [w] := rfl
  have hto : ∀ x ∈ a :: q, d x ≤ d a + 1 := fun x hx => by
    rcases List.mem_cons.1 hx with rfl | hx
    · omega
    · exact ((List.pairwise_cons.1 h.base.qord).1 x hx).2
  have hfro : ∀ x ∈ a :: q, d a ≤ d x := fun x hx => by
    rcases List.mem_cons.1 hx with rfl | hx
    · omega
    · exact ((List.pairwise_cons.1 h.base.qord).1 x hx).1
  refine ⟨⟨?_, fun v u hv => ?_, fun v u hv h0 => ?_, fun v hv => ?_, ?_, fun v u hv hq => ?_, ?_, fun v u hv hq x hx => ?_⟩, h.ne, fun x hx hxc => ?_⟩
  · obtain ⟨h1, h2⟩ := h.base.st0
    obtain ⟨h3, h4⟩ := hk st st h1
    exact ⟨h3, h4.trans h2⟩
  · rcases hinv v u hv with ⟨rfl, rfl⟩ | ⟨hv, e⟩
    · refine ⟨hb u (h.base.seen u ua hua).1 v hmem, hc, .inr ⟨⟨ua, ha.1⟩, hmem, ?_⟩⟩
      rw [upd_same, ha.2]
    · obtain ⟨h1, h2, h3⟩ := h.base.seen v u hv
      refine ⟨h1, h2, h3.imp id fun ⟨⟨x, hx⟩, h4, h5⟩ => ⟨⟨x, (hk u x hx).1⟩, h4, ?_⟩⟩
      rw [(hk v u hv).2, (hk u x hx).2]; exact h5
  · rcases hinv v u hv with ⟨rfl, rfl⟩ | ⟨hv, e⟩
    · rw [upd_same] at h0; omega
    · rw [(hk v u hv).2] at h0
      exact h.base.nost v u hv h0
  · rw [hqq] at hv
    rcases List.mem_append.1 hv with hv | hv
    · obtain ⟨u, hu⟩ := h.base.qseen v hv
      exact ⟨u, (hk v u hu).1⟩
    · have : v = w := by simpa using hv
      subst this
      exact ⟨a, setC_same _ _ _⟩
  · rw [hqq, List.pairwise_append]
    refine ⟨h.base.qord.imp_of_mem (fun {x y} hx hy hxy => ?_), by simp, fun x hx y hy => ?_⟩
    · rw [hdq x hx, hdq y hy]; exact hxy
    · have : y = w := by simpa using hy
      subst this
      rw [hdq x hx, upd_same]
      have := hto x hx
      have := hfro x hx
      omega
  · rw [hqq] at hq
    rcases hinv v u hv with ⟨rfl, rfl⟩ | ⟨hv, e⟩
    · exact absurd (by simp) hq
    · obtain ⟨h1, h2⟩ := h.base.done v u hv (fun e => hq (List.mem_append.2 (.inl e)))
      refine ⟨h1, fun x hx hxc => ?_⟩
      obtain ⟨⟨y, hy⟩, h4⟩ := h2 x hx hxc
      refine ⟨⟨y, (hk x y hy).1⟩, ?_⟩
      rw [(hk x y hy).2, (hk v u hv).2]; exact h4
  · rw [hqq]
    refine List.nodup_append.2 ⟨h.base.nd, by simp, fun x hx y hy e => ?_⟩
    have : y = w := by simpa using hy
    subst this
    exact hwq (e ▸ hx)
  · rw [hqq] at hq hx
    rcases hinv v u hv with ⟨rfl, rfl⟩ | ⟨hv', e⟩
    · exact absurd (by simp) hq
    · have hvq : v ∉ a :: q := fun e => hq (List.mem_append.2 (.inl e))
      rw [(hk v u hv').2]
      rcases List.mem_append.1 hx with hx | hx
      · rw [hdq x hx]; exact h.base.old v u hv' hvq x hx
      · have : x = w := by simpa using hx
        subst this
        rw [upd_same]
        have := h.base.old v u hv' hvq a (by simp)
        omega
  · rcases take_bump hw hx with hx | rfl
    · obtain ⟨⟨y, hy⟩, h4⟩ := h.part x hx hxc
      refine ⟨⟨y, (hk x y hy).1⟩, ?_⟩
      rw [(hk x y hy).2, ha.2]; exact h4
    · refine ⟨⟨a, setC_same _ _ _⟩, ?_⟩
      rw [upd_same, ha.2]
      omega

/-- The round's end. -/
theorem BI2.leave (h : BI2 deps n comp st en cf d a q i) (hi : (deps a).length ≤ i) : BI deps n comp st en cf d q := by
  have hp := List.pairwise_cons.1 h.base.qord
  have hnd := List.nodup_cons.1 h.base.nd
  refine ⟨h.base.st0, h.base.seen, h.base.nost, fun v hv => h.base.qseen v (List.mem_cons_of_mem _ hv), hp.2, fun v u hv hq => ?_, hnd.2, fun v u hv hq x hx => ?_⟩
  · by_cases e : v = a
    · subst e
      refine ⟨h.ne, fun w hw hc => h.part w (by rw [List.take_of_length_le hi]; exact hw) hc⟩
    · exact h.base.done v u hv (fun h' => by rcases List.mem_cons.1 h' with h' | h'; exact e h'; exact hq h')
  · by_cases e : v = a
    · subst e
      exact (hp.1 x hx).1
    · exact h.base.old v u hv (fun h' => by rcases List.mem_cons.1 h' with h' | h'; exact e h'; exact hq h') x (List.mem_cons_of_mem _ hx)

theorem BI.walk (h : BI deps n comp st en cf d q) : ∀ k v u, cf v = some u → d v = k → Walk deps k st v := by
  intro k
  induction k with
  | zero => intro v u hv h0; exact (h.nost v u hv h0).symm
  | succ k ih =>
    intro v u hv h0
    obtain ⟨_, _, e | ⟨⟨x, hx⟩, h2, h3⟩⟩ := h.seen v u hv
    · rw [e, h.st0.2] at h0; omega
    · exact (ih u x hx (by omega)).snoc h2

/-- Along a walk within the component everything is met, as long as nothing on it is still in the queue. -/
theorem BI.along (hb : ∀ i, i < n → ∀ v ∈ deps i, v < n) (hC : Comps deps n comp) (h : BI deps n comp st en cf d q) (hst : st < n) : ∀ k v, Walk deps k st v → comp v = comp st → (∀ x u, cf x = some u → d x < k → x ∉ q) → ∃ u, cf v = some u ∧ d v ≤ k := by
  intro k
  induction k with
  | zero => intro v hw _ _; cases hw; exact ⟨st, h.st0.1, by rw [h.st0.2]; exact Nat.le_refl _⟩
  | succ k ih =>
    intro v hw hc hq
    obtain ⟨x, hx, hv⟩ := hw.last
    have hxn := Walk.bound hb hst hx
    have c1 := Walk.comp_le hb hC hst hx
    have c2 := hC.mono x hxn v hv
    obtain ⟨u, hu, hd⟩ := ih x hx (by omega) (fun y w hy hyk => hq y w hy (by omega))
    obtain ⟨_, h2⟩ := h.done x u hu (hq x u hu (by omega))
    obtain ⟨⟨y, hy⟩, h3⟩ := h2 v hv hc
    exact ⟨y, hy, by omega⟩

/-- The head is the end: its distance is the whole graph's. -/
theorem BI.dist (hb : ∀ i, i < n → ∀ v ∈ deps i, v < n) (hC : Comps deps n comp) (h : BI deps n comp st en cf d (en :: q)) (hst : st < n) : IsDist deps st en (d en) := by
  obtain ⟨u, hu⟩ := h.qseen en (by simp)
  refine ⟨h.walk _ en u hu rfl, fun m hm => ?_⟩
  by_cases hlt : m < d en
  · obtain ⟨u', _, h2⟩ := h.along hb hC hst m en hm (h.seen en u hu).2.1 (fun x ux hx hxm hxq => by
      rcases List.mem_cons.1 hxq with rfl | hxq
      · omega
      · have := ((List.pairwise_cons.1 h.qord).1 x hxq).1
        omega)
    omega
  · omega

/-- The queue does not run dry. -/
theorem BI.not_dry (hb : ∀ i, i < n → ∀ v ∈ deps i, v < n) (hC : Comps deps n comp) (h : BI deps n comp st en cf d []) (hst : st < n) (hen : en < n) (hc : comp en = comp st) : False := by
  obtain ⟨k, hk⟩ := hC.reach st en hst hen hc.symm
  obtain ⟨u, hu, _⟩ := h.along hb hC hst k en hk hc (fun x u _ _ => by simp)
  exact (h.done en u hu (by simp)).1 rfl

def unseen (n : Nat) (cf : Nat → Option Nat) : Nat := ((List.range n).map fun v => if (cf v).isNone then 1 else 0).sum
theorem unseen_set {n : Nat} {cf : Nat → Option Nat} {a b : Nat} (ha : a < n) (h0 : cf a = none) : unseen n (setC cf a b) + 1 = unseen n cf := by
  have := sum_one (fun v => if (cf v).isNone then 1 else 0) (fun v => if (setC cf a b v).isNone then 1 else 0) (a := a) (fun v hv => by simp only [setC_other _ _ hv]) n ha
  rw [setC_same, h0] at this
  exact this
theorem unseen_all (n : Nat) : unseen n (fun _ => none) = n := by
  unfold unseen
  induction n with
  | zero => rfl
  | succ n ih =>
    rw [List.range_succ, List.map_append, List.sum_append, ih]
    simp

theorem BI.q_len (h : BI deps n comp st en cf d q) : q.length ≤ n := nodup_bound n q h.nd (fun v hv => by
  obtain ⟨u, hu⟩ := h.qseen v hv
  exact (h.seen v u hu).1)

/-- Each distance below that of a position that was met is some met position's. -/
theorem BI.chain (h : BI deps n comp st en cf d q) : ∀ k v u, cf v = some u → d v = k → ∃ l : List Nat, l.length = k + 1 ∧ l.Nodup ∧ ∀ x ∈ l, x < n ∧ d x ≤ k := by
  intro k
  induction k with
  | zero => intro v u hv h0; exact ⟨[v], rfl, by simp, fun x hx => by have : x = v := by simpa using hx
                                                                      subst this; exact ⟨(h.seen x u hv).1, by omega⟩⟩
  | succ k ih =>
    intro v u hv h0
    obtain ⟨hvn, _, e | ⟨⟨x, hx⟩, h2, h3⟩⟩ := h.seen v u hv
    · rw [e, h.st0.2] at h0; omega
    · obtain ⟨l, l1, l2, l3⟩ := ih u x hx (by omega)
      refine ⟨v :: l, by simp [l1], List.nodup_cons.2 ⟨fun hm => ?_, l2⟩, fun y hy => ?_⟩
      · have := (l3 v hm).2; omega
      · rcases List.mem_cons.1 hy with rfl | hy
        · exact ⟨hvn, by omega⟩
        · have := l3 y hy; omega
theorem BI.nodes_le (h : BI deps n comp st en cf d q) {v : Nat} (u : Nat) (hv : cf v = some u) : d v + 1 ≤ n := by
  obtain ⟨l, l1, l2, l3⟩ := h.chain (d v) v u hv rfl
  rw [← l1]
  exact nodup_bound n l l2 (fun x hx => (l3 x hx).1)

/-- The way back from the end. -/
structure Back (deps : Nat → List Nat) (en at' : Nat) (R : List Nat) : Prop where
  first : R[0]? = some en
  last : R.getLast? = some at'
  chain : ∀ j x y, R[j]? = some x → R[j + 1]? = some y → x ∈ deps y

theorem back_start (en : Nat) : Back deps en en [en] := ⟨rfl, rfl, fun j x y _ h => by simp at h⟩
theorem Back.step {at' u : Nat} {R : List Nat} (h : Back deps en at' R) (hu : at' ∈ deps u) : Back deps en u (R ++ [u]) := by
  have hne : R ≠ [] := fun e => by have := h.first; rw [e] at this; cases this
  have hlen : 0 < R.length := List.length_pos_iff.2 hne
  refine ⟨by rw [List.getElem?_append_left hlen]; exact h.first, by simp, fun j x y hx hy => ?_⟩
  by_cases e : j + 1 < R.length
  · rw [List.getElem?_append_left (by omega)] at hx
    rw [List.getElem?_append_left e] at hy
    exact h.chain j x y hx hy
  · have hj : j + 1 < (R ++ [u]).length := (List.getElem?_eq_some_iff.1 hy).1
    rw [List.length_append, show [u].length = 1 from rfl] at hj
    have hj2 : j = R.length - 1 := by omega
    rw [List.getElem?_append_right (by omega), show j + 1 - R.length = 0 from by omega] at hy
    obtain rfl : u = y := by simpa using hy
    rw [List.getElem?_append_left (by omega), hj2, ← List.getLast?_eq_getElem?, h.last] at hx
    obtain rfl : at' = x := by simpa using hx
    exact hu
end
end Go.Proofs.Qxb6600314a
