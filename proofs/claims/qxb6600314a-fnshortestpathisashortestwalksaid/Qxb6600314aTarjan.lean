/-
  PLAIN LAW for seat b6600314a: Tarjan's algorithm with a stack of its own, no Go in sight.
-/
import Derived.WalkKit
namespace Go.Proofs.Qxb6600314a
set_option linter.unusedVariables false

/-- A walk of k steps along the lists of dependencies. -/
def Walk (deps : Nat → List Nat) : Nat → Nat → Nat → Prop
  | 0, u, v => u = v
  | k + 1, u, v => ∃ x, x ∈ deps u ∧ Walk deps k x v
def Reach (deps : Nat → List Nat) (u v : Nat) : Prop := ∃ k, Walk deps k u v

theorem Walk.trans {deps : Nat → List Nat} : ∀ {k m u v x}, Walk deps k u v → Walk deps m v x → Walk deps (k + m) u x := by
  intro k
  induction k with
  | zero => intro m u v x h1 h2; cases h1; rw [Nat.zero_add]; exact h2
  | succ k ih =>
    intro m u v x h1 h2
    obtain ⟨y, hy, h1⟩ := h1
    rw [show k + 1 + m = (k + m) + 1 from by omega]
    exact ⟨y, hy, ih h1 h2⟩
theorem Reach.refl {deps : Nat → List Nat} (u : Nat) : Reach deps u u := ⟨0, rfl⟩
theorem Reach.trans {deps : Nat → List Nat} {u v x : Nat} (h : Reach deps u v) (h' : Reach deps v x) : Reach deps u x := by
  obtain ⟨k, hk⟩ := h
  obtain ⟨m, hm⟩ := h'
  exact ⟨k + m, hk.trans hm⟩
theorem Reach.edge {deps : Nat → List Nat} {u v : Nat} (h : v ∈ deps u) : Reach deps u v := ⟨1, v, h, rfl⟩

/-- A position being walked, the index of its next dependency, and what was met behind it and stays on the stack (the last first). -/
structure Frame where
  at' : Nat
  next : Nat
  seg : List Nat

/-- The stack, its top first. -/
def stackOf : List Frame → List Nat
  | [] => []
  | f :: rest => f.seg ++ f.at' :: stackOf rest

/-- The state. -/
structure TS where
  order : Nat → Nat
  low : Nat → Nat
  comp : Nat → Nat
  fr : List Frame
  met : Nat
  found : Nat

def upd (f : Nat → Nat) (a b : Nat) : Nat → Nat := fun x => if x = a then b else f x
theorem upd_same (f : Nat → Nat) (a b : Nat) : upd f a b a = b := by simp [upd]
theorem upd_other (f : Nat → Nat) {a x : Nat} (b : Nat) (h : x ≠ a) : upd f a b x = f x := by simp [upd, h]

/-- Done: met, and no more on the stack. -/
def TS.D (s : TS) (v : Nat) : Prop := s.order v ≠ 0 ∧ v ∉ stackOf s.fr
/-- An edge to w that was looked at by (one below) the frame of low l. -/
def TS.E (s : TS) (l w : Nat) : Prop := s.order w ≠ 0 ∧ (w ∈ stackOf s.fr → l ≤ s.order w)

/-- What is known of the frames. -/
def FrOk (deps : Nat → List Nat) (s : TS) : List Frame → Prop
  | [] => True
  | f :: rest => (∀ v ∈ f.seg, Reach deps f.at' v ∧ Reach deps v f.at') ∧ (∀ g ∈ rest.head?, Reach deps g.at' f.at') ∧ s.low f.at' ≤ s.order f.at' ∧
      (∃ u ∈ stackOf (f :: rest), s.order u = s.low f.at' ∧ Reach deps f.at' u) ∧ (∀ v ∈ f.seg, ∀ w ∈ deps v, s.E (s.low f.at') w) ∧ (∀ w ∈ (deps f.at').take f.next, s.E (s.low f.at') w) ∧ FrOk deps s rest

structure TInv (deps : Nat → List Nat) (n : Nat) (s : TS) : Prop where
  bnd : ∀ v, s.order v ≠ 0 → v < n
  omet : ∀ v, s.order v ≤ s.met
  ord : (stackOf s.fr).Pairwise fun a b => s.order b < s.order a
  pos : ∀ v ∈ stackOf s.fr, s.order v ≠ 0
  dedge : ∀ v, s.D v → ∀ w ∈ deps v, s.D w ∧ s.comp w ≤ s.comp v
  dcomp : ∀ v, s.D v → s.comp v < s.found
  dsc : ∀ u v, s.D u → s.D v → s.comp u = s.comp v → Reach deps u v
  frok : FrOk deps s s.fr

section
variable {deps : Nat → List Nat} {n : Nat} {s : TS}

/-- Frames keep what is known of them as long as their own numbers stand and no edge looked at is lost. -/
theorem FrOk.mono {s s' : TS} : ∀ {fr : List Frame}, FrOk deps s fr → (∀ v ∈ stackOf fr, s'.order v = s.order v) → (∀ f ∈ fr, s'.low f.at' = s.low f.at') → (∀ l w, s.E l w → s'.E l w) → FrOk deps s' fr := by
  intro fr
  induction fr with
  | nil => intros; trivial
  | cons f rest ih =>
    intro h ho hl hE
    obtain ⟨h1, h2, h3, ⟨u, hu, hu1, hu2⟩, h5, h6, h7⟩ := h
    have hat : f.at' ∈ stackOf (f :: rest) := by simp [stackOf]
    have el := hl f (by simp)
    refine ⟨h1, h2, ?_, ⟨u, hu, ?_, hu2⟩, fun v hv w hw => ?_, fun w hw => ?_, ih h7 (fun v hv => ho v (by simp [stackOf, hv])) (fun g hg => hl g (by simp [hg])) hE⟩
    · rw [el, ho _ hat]; exact h3
    · rw [el, ho _ hu]; exact hu1
    · rw [el]; exact hE _ _ (h5 v hv w hw)
    · rw [el]; exact hE _ _ (h6 w hw)

theorem FrOk.tail {f : Frame} {rest : List Frame} (h : FrOk deps s (f :: rest)) : FrOk deps s rest := h.2.2.2.2.2.2

theorem at_mem_stack {fr : List Frame} {f : Frame} (h : f ∈ fr) : f.at' ∈ stackOf fr := by
  induction fr with
  | nil => cases h
  | cons g rest ih =>
    rcases List.mem_cons.1 h with rfl | h
    · simp [stackOf]
    · simp [stackOf, ih h]

/-- MEET: a position that was not met yet. -/
theorem TInv.meet (h : TInv deps n s) {w : Nat} (hw : w < n) (h0 : s.order w = 0) (hr : ∀ g ∈ s.fr.head?, Reach deps g.at' w) :
    TInv deps n ⟨upd s.order w (s.met + 1), upd s.low w (s.met + 1), s.comp, ⟨w, 0, []⟩ :: s.fr, s.met + 1, s.found⟩ := by
  have hnw : w ∉ stackOf s.fr := fun e => h.pos w e h0
  have ho : ∀ v ∈ stackOf s.fr, upd s.order w (s.met + 1) v = s.order v := fun v hv => upd_other _ _ (fun e => hnw (e ▸ hv))
  have hD : ∀ v, TS.D ⟨upd s.order w (s.met + 1), upd s.low w (s.met + 1), s.comp, ⟨w, 0, []⟩ :: s.fr, s.met + 1, s.found⟩ v ↔ s.D v := by
    intro v
    unfold TS.D
    by_cases e : v = w
    · subst e
      simp [stackOf, h0]
    · simp [stackOf, upd_other _ _ e, e]
  refine ⟨fun v hv => ?_, fun v => ?_, ?_, fun v hv => ?_, fun v hv x hx => ?_, fun v hv => ?_, fun u v hu hv e => ?_, ?_⟩
  · by_cases e : v = w
    · rw [e]; exact hw
    · exact h.bnd v (by simpa [upd_other _ _ e] using hv)
  · by_cases e : v = w
    · simp [e, upd_same]
    · have := h.omet v
      simp only [upd_other _ _ e]
      omega
  · simp only [stackOf, List.nil_append, List.pairwise_cons]
    refine ⟨fun v hv => ?_, ?_⟩
    · rw [ho v hv, upd_same]
      have := h.omet v
      omega
    · refine h.ord.imp_of_mem (fun {a b} ha hb hab => ?_)
      rw [ho a ha, ho b hb]
      exact hab
  · simp only [stackOf, List.nil_append, List.mem_cons] at hv
    rcases hv with rfl | hv
    · simp [upd_same]
    · rw [show TS.order ⟨upd s.order w (s.met + 1), upd s.low w (s.met + 1), s.comp, ⟨w, 0, []⟩ :: s.fr, s.met + 1, s.found⟩ v = s.order v from ho v hv]
      exact h.pos v hv
  · have := h.dedge v ((hD v).1 hv) x hx
    exact ⟨(hD x).2 this.1, this.2⟩
  · exact h.dcomp v ((hD v).1 hv)
  · exact h.dsc u v ((hD u).1 hu) ((hD v).1 hv) e
  · refine ⟨fun v hv => by simp at hv, hr, by simp [upd_same], ⟨w, by simp [stackOf], by simp [upd_same], Reach.refl _⟩, fun v hv => by simp at hv, fun v hv => by simp at hv, ?_⟩
    refine h.frok.mono ho (fun f hf => upd_other _ _ (fun e => hnw (e ▸ at_mem_stack hf))) (fun l x hx => ⟨?_, fun hx2 => ?_⟩)
    · by_cases e : x = w
      · simp [e, upd_same]
      · simpa [upd_other _ _ e] using hx.1
    · by_cases e : x = w
      · exact absurd (e ▸ h0) hx.1
      · have : x ∈ stackOf s.fr := by simpa [stackOf, e] using hx2
        simpa [upd_other _ _ e] using hx.2 this

/-- Everything but the frames' own facts hangs on the stack alone. -/
theorem TInv.refr (h : TInv deps n s) {fr' : List Frame} {low' : Nat → Nat} (hs : stackOf fr' = stackOf s.fr) (hf : FrOk deps ⟨s.order, low', s.comp, fr', s.met, s.found⟩ fr') :
    TInv deps n ⟨s.order, low', s.comp, fr', s.met, s.found⟩ := by
  have hD : ∀ v, TS.D ⟨s.order, low', s.comp, fr', s.met, s.found⟩ v ↔ s.D v := fun v => by unfold TS.D; simp only [hs]
  refine ⟨h.bnd, h.omet, by simp only [hs]; exact h.ord, fun v hv => h.pos v (by simpa only [hs] using hv), fun v hv x hx => ?_, fun v hv => h.dcomp v ((hD v).1 hv), fun u v hu hv e => h.dsc u v ((hD u).1 hu) ((hD v).1 hv) e, hf⟩
  have := h.dedge v ((hD v).1 hv) x hx
  exact ⟨(hD x).2 this.1, this.2⟩

theorem take_bump {l : List Nat} {k w x : Nat} (hw : l[k]? = some w) (hx : x ∈ l.take (k + 1)) : x ∈ l.take k ∨ x = w := by
  obtain ⟨hlt, e⟩ := List.getElem?_eq_some_iff.1 hw
  rw [List.take_succ_eq_append_getElem hlt] at hx
  rcases List.mem_append.1 hx with hx | hx
  · exact .inl hx
  · exact .inr (by rw [← e]; simpa using hx)

/-- An edge to a position that was met already: on the stack or not. -/
theorem TInv.look (h : TInv deps n s) {f : Frame} {rest : List Frame} (hfr : s.fr = f :: rest) {w : Nat} (hw : (deps f.at')[f.next]? = some w) (h0 : s.order w ≠ 0) {low' : Nat → Nat}
    (hl1 : w ∈ stackOf s.fr → ∀ x, low' x = upd s.low f.at' (min (s.low f.at') (s.order w)) x) (hl2 : w ∉ stackOf s.fr → ∀ x, low' x = s.low x) :
    TInv deps n ⟨s.order, low', s.comp, ⟨f.at', f.next + 1, f.seg⟩ :: rest, s.met, s.found⟩ := by
  have hs : stackOf (⟨f.at', f.next + 1, f.seg⟩ :: rest) = stackOf s.fr := by rw [hfr]; rfl
  have hfo := h.frok
  rw [hfr] at hfo
  obtain ⟨h1, h2, h3, ⟨u, hu, hu1, hu2⟩, h5, h6, h7⟩ := hfo
  have hmem : w ∈ deps f.at' := List.mem_of_getElem? hw
  have hle : low' f.at' ≤ s.low f.at' ∧ (w ∈ stackOf s.fr → low' f.at' ≤ s.order w) := by
    by_cases e : w ∈ stackOf s.fr
    · rw [hl1 e, upd_same]; exact ⟨Nat.min_le_left _ _, fun _ => Nat.min_le_right _ _⟩
    · rw [hl2 e]; exact ⟨Nat.le_refl _, fun e' => absurd e' e⟩
  have hEE : ∀ l l' x, l' ≤ l → s.E l x → TS.E ⟨s.order, low', s.comp, ⟨f.at', f.next + 1, f.seg⟩ :: rest, s.met, s.found⟩ l' x := fun l l' x hll hx => ⟨hx.1, fun hx2 => Nat.le_trans hll (hx.2 (by simpa only [hs] using hx2))⟩
  have hord := h.ord
  rw [hfr] at hord
  have hlow : ∀ g ∈ rest, low' g.at' = s.low g.at' := fun g hg => by
    have hne : g.at' ≠ f.at' := fun e => by
      have h1 := (List.pairwise_append.1 hord).2.1
      have h2 := (List.pairwise_cons.1 h1).1 g.at' (at_mem_stack hg)
      rw [e] at h2
      omega
    by_cases e : w ∈ stackOf s.fr
    · rw [hl1 e, upd_other _ _ hne]
    · exact hl2 e _
  refine h.refr hs ⟨h1, h2, Nat.le_trans hle.1 h3, ?_, fun v hv x hx => hEE _ _ _ hle.1 (h5 v hv x hx), fun x hx => ?_, ?_⟩
  · by_cases e : w ∈ stackOf s.fr
    · by_cases hm : s.low f.at' ≤ s.order w
      · exact ⟨u, hu, by show s.order u = low' f.at'; rw [hl1 e, upd_same, Nat.min_eq_left hm]; exact hu1, hu2⟩
      · exact ⟨w, by rw [hs]; exact e, by show s.order w = low' f.at'; rw [hl1 e, upd_same, Nat.min_eq_right (by omega)], Reach.edge hmem⟩
    · exact ⟨u, hu, by show s.order u = low' f.at'; rw [hl2 e]; exact hu1, hu2⟩
  · rcases take_bump hw hx with hx | rfl
    · exact hEE _ _ _ hle.1 (h6 x hx)
    · exact ⟨h0, fun hx2 => hle.2 (by simpa only [hs] using hx2)⟩
  · exact h7.mono (fun v hv => rfl) hlow (fun l x hx => hEE l l x (Nat.le_refl _) hx)

/-- An edge to a position that was not met yet. -/
theorem TInv.meetFrom (h : TInv deps n s) {f : Frame} {rest : List Frame} (hfr : s.fr = f :: rest) {w : Nat} (hw : (deps f.at')[f.next]? = some w) (hwn : w < n) (h0 : s.order w = 0) :
    TInv deps n ⟨upd s.order w (s.met + 1), upd s.low w (s.met + 1), s.comp, ⟨w, 0, []⟩ :: ⟨f.at', f.next + 1, f.seg⟩ :: rest, s.met + 1, s.found⟩ := by
  have hmem : w ∈ deps f.at' := List.mem_of_getElem? hw
  have hm := h.meet hwn h0 (by rw [hfr]; intro g hg; obtain rfl : f = g := by simpa using hg
                               exact Reach.edge hmem)
  have hfo := hm.frok
  simp only [hfr] at hfo
  obtain ⟨g1, g2, g3, ⟨u, hu, hu1, hu2⟩, g5, g6, h1, h2, h3, hwit, h5, h6, h7⟩ := hfo
  have hs : stackOf (⟨w, 0, []⟩ :: ⟨f.at', f.next + 1, f.seg⟩ :: rest) = stackOf (⟨w, 0, []⟩ :: s.fr) := by rw [hfr]; rfl
  have hEE : ∀ l x, TS.E ⟨upd s.order w (s.met + 1), upd s.low w (s.met + 1), s.comp, ⟨w, 0, []⟩ :: f :: rest, s.met + 1, s.found⟩ l x → TS.E ⟨upd s.order w (s.met + 1), upd s.low w (s.met + 1), s.comp, ⟨w, 0, []⟩ :: ⟨f.at', f.next + 1, f.seg⟩ :: rest, s.met + 1, s.found⟩ l x := fun l x hx => hx
  have hnf : f.at' ≠ w := fun e => by
    have := h.pos f.at' (by rw [hfr]; simp [stackOf])
    rw [e] at this
    exact this h0
  refine hm.refr hs ⟨g1, ?_, g3, ⟨u, hu, hu1, hu2⟩, g5, fun x hx => by simp at hx, h1, h2, h3, hwit, fun v hv x hx => hEE _ _ (h5 v hv x hx), fun x hx => ?_, h7.mono (fun v hv => rfl) (fun g hg => rfl) hEE⟩
  · intro g hg
    obtain rfl : (⟨f.at', f.next + 1, f.seg⟩ : Frame) = g := by simpa using hg
    exact Reach.edge hmem
  · rcases take_bump hw hx with hx | rfl
    · exact hEE _ _ (h6 x hx)
    · refine ⟨by simp [upd_same], fun _ => ?_⟩
      have hfo := h.frok
      rw [hfr] at hfo
      have e1 := hfo.2.2.1
      have e2 := h.omet f.at'
      simp only [upd_same, upd_other _ _ hnf]
      omega

/-- What lies on the stack reaches the top frame's own position. -/
theorem FrOk.down : ∀ {g : Frame} {r : List Frame}, FrOk deps s (g :: r) → ∀ u ∈ stackOf (g :: r), Reach deps u g.at' := by
  intro g r
  induction r generalizing g with
  | nil =>
    intro h u hu
    have hu' : u ∈ g.seg ∨ u = g.at' := by simpa [stackOf] using hu
    rcases hu' with hu | rfl
    · exact (h.1 u hu).2
    · exact Reach.refl _
  | cons g' r ih =>
    intro h u hu
    have hu' : u ∈ g.seg ∨ u = g.at' ∨ u ∈ stackOf (g' :: r) := by
      rcases List.mem_append.1 (show u ∈ g.seg ++ g.at' :: stackOf (g' :: r) from hu) with h1 | h1
      · exact .inl h1
      · rcases List.mem_cons.1 h1 with h1 | h1
        · exact .inr (.inl h1)
        · exact .inr (.inr h1)
    rcases hu' with hu | rfl | hu
    · exact (h.1 u hu).2
    · exact Reach.refl _
    · exact (ih h.tail u hu).trans (h.2.1 g' (by simp))

/-- The orders of the top frame and of what lies below it. -/
theorem TInv.split (h : TInv deps n s) {f : Frame} {rest : List Frame} (hfr : s.fr = f :: rest) : (∀ v ∈ f.seg, s.order f.at' < s.order v) ∧ (∀ v ∈ stackOf rest, s.order v < s.order f.at') ∧ (∀ v ∈ f.seg, ∀ x ∈ stackOf rest, s.order x < s.order v) := by
  have hord := h.ord
  rw [hfr] at hord
  obtain ⟨_, h2, h3⟩ := List.pairwise_append.1 hord
  refine ⟨fun v hv => h3 v hv _ (by simp), fun v hv => (List.pairwise_cons.1 h2).1 v hv, fun v hv x hx => h3 v hv x (List.mem_cons_of_mem _ hx)⟩

theorem TInv.low_top (h : TInv deps n s) {f : Frame} (hfr : s.fr = [f]) : s.low f.at' = s.order f.at' := by
  have hfo := h.frok
  rw [hfr] at hfo
  obtain ⟨_, _, h3, ⟨u, hu, hu1, _⟩, _⟩ := hfo
  have hu' : u ∈ f.seg ∨ u = f.at' := by simpa [stackOf] using hu
  rcases hu' with hu | rfl
  · have := (h.split hfr).1 u hu
    omega
  · exact hu1.symm

/-- A RETURN THAT CLOSES NO COMPONENT. -/
theorem TInv.merge (h : TInv deps n s) {f g : Frame} {r : List Frame} (hfr : s.fr = f :: g :: r) (hn : (deps f.at').length ≤ f.next) (hlt : s.low f.at' ≠ s.order f.at') :
    TInv deps n ⟨s.order, upd s.low g.at' (min (s.low g.at') (s.low f.at')), s.comp, ⟨g.at', g.next, f.seg ++ f.at' :: g.seg⟩ :: r, s.met, s.found⟩ := by
  have hs : stackOf (⟨g.at', g.next, f.seg ++ f.at' :: g.seg⟩ :: r) = stackOf s.fr := by rw [hfr]; simp [stackOf]
  have hfo := h.frok
  rw [hfr] at hfo
  have hdown := hfo.tail
  obtain ⟨h1, h2, h3, ⟨u, hu, hu1, hu2⟩, h5, h6, k1, k2, k3, ⟨x, hx, hx1, hx2⟩, k5, k6, k7⟩ := hfo
  obtain ⟨s1, s2, s3⟩ := h.split hfr
  have hgf : Reach deps g.at' f.at' := h2 g (by simp)
  have hfg : Reach deps f.at' g.at' := by
    have hu' : u ∈ f.seg ∨ u = f.at' ∨ u ∈ stackOf (g :: r) := by
      rcases List.mem_append.1 (show u ∈ f.seg ++ f.at' :: stackOf (g :: r) from hu) with h1 | h1
      · exact .inl h1
      · rcases List.mem_cons.1 h1 with h1 | h1
        · exact .inr (.inl h1)
        · exact .inr (.inr h1)
    rcases hu' with hu | rfl | hu
    · have := s1 u hu
      omega
    · exact absurd hu1.symm hlt
    · exact hu2.trans (hdown.down u hu)
  have hEE : ∀ l l' x, l' ≤ l → s.E l x → TS.E ⟨s.order, upd s.low g.at' (min (s.low g.at') (s.low f.at')), s.comp, ⟨g.at', g.next, f.seg ++ f.at' :: g.seg⟩ :: r, s.met, s.found⟩ l' x := fun l l' x hll hx => ⟨hx.1, fun hx2 => Nat.le_trans hll (hx.2 (by simpa only [hs] using hx2))⟩
  have hord := h.ord
  rw [hfr] at hord
  have hlow : ∀ g' ∈ r, upd s.low g.at' (min (s.low g.at') (s.low f.at')) g'.at' = s.low g'.at' := fun g' hg => by
    refine upd_other _ _ (fun e => ?_)
    have e1 := (List.pairwise_append.1 hord).2.1
    have e2 := (List.pairwise_cons.1 e1).2
    have e3 := (List.pairwise_append.1 (show (g.seg ++ g.at' :: stackOf r).Pairwise _ from e2)).2.1
    have e4 := (List.pairwise_cons.1 e3).1 g'.at' (at_mem_stack hg)
    rw [e] at e4
    omega
  have hl : upd s.low g.at' (min (s.low g.at') (s.low f.at')) g.at' = min (s.low g.at') (s.low f.at') := upd_same _ _ _
  refine h.refr hs ⟨fun v hv => ?_, k2, ?_, ?_, fun v hv w hw => ?_, fun w hw => ?_, k7.mono (fun v hv => rfl) hlow (fun l x hx => hEE l l x (Nat.le_refl _) hx)⟩
  · rcases List.mem_append.1 hv with hv | hv
    · exact ⟨hgf.trans (h1 v hv).1, (h1 v hv).2.trans hfg⟩
    · rcases List.mem_cons.1 hv with rfl | hv
      · exact ⟨hgf, hfg⟩
      · exact k1 v hv
  · show upd s.low g.at' _ g.at' ≤ s.order g.at'
    rw [hl]
    exact Nat.le_trans (Nat.min_le_left _ _) k3
  · rw [hs]
    by_cases hm : s.low g.at' ≤ s.low f.at'
    · refine ⟨x, ?_, ?_, hx2⟩
      · rw [hfr]
        exact List.mem_append.2 (.inr (List.mem_cons_of_mem _ hx))
      · show s.order x = upd s.low g.at' _ g.at'
        rw [hl, Nat.min_eq_left hm]; exact hx1
    · refine ⟨u, by rw [hfr]; exact hu, ?_, hgf.trans hu2⟩
      show s.order u = upd s.low g.at' _ g.at'
      rw [hl, Nat.min_eq_right (by omega)]; exact hu1
  · show TS.E _ (upd s.low g.at' _ g.at') w
    rw [hl]
    rcases List.mem_append.1 hv with hv | hv
    · exact hEE _ _ _ (Nat.min_le_right _ _) (h5 v hv w hw)
    · rcases List.mem_cons.1 hv with rfl | hv
      · exact hEE _ _ _ (Nat.min_le_right _ _) (h6 w (by rw [List.take_of_length_le hn]; exact hw))
      · exact hEE _ _ _ (Nat.min_le_left _ _) (k5 v hv w hw)
  · show TS.E _ (upd s.low g.at' _ g.at') w
    rw [hl]
    exact hEE _ _ _ (Nat.min_le_left _ _) (k6 w hw)

/-- A RETURN THAT CLOSES A COMPONENT. -/
theorem TInv.close (h : TInv deps n s) {f : Frame} {rest : List Frame} (hfr : s.fr = f :: rest) (hn : (deps f.at').length ≤ f.next) (heq : s.low f.at' = s.order f.at') {comp' : Nat → Nat}
    (hc1 : ∀ v, v ∈ f.seg ∨ v = f.at' → comp' v = s.found) (hc2 : ∀ v, ¬ (v ∈ f.seg ∨ v = f.at') → comp' v = s.comp v) {low' : Nat → Nat} (hlow : ∀ g ∈ rest, low' g.at' = s.low g.at') :
    TInv deps n ⟨s.order, low', comp', rest, s.met, s.found + 1⟩ := by
  have hst : ∀ v, v ∈ stackOf s.fr ↔ (v ∈ f.seg ∨ v = f.at') ∨ v ∈ stackOf rest := fun v => by rw [hfr]; simp [stackOf, or_assoc]
  obtain ⟨s1, s2, s3⟩ := h.split hfr
  have hdis : ∀ v, v ∈ f.seg ∨ v = f.at' → v ∉ stackOf rest := fun v hv hv2 => by
    rcases hv with hv | rfl
    · have := s3 v hv v hv2; omega
    · have := s2 _ hv2; omega
  have hfo := h.frok
  rw [hfr] at hfo
  obtain ⟨h1, h2, h3, hwit, h5, h6, h7⟩ := hfo
  have hD : ∀ v, TS.D ⟨s.order, low', comp', rest, s.met, s.found + 1⟩ v ↔ s.D v ∨ (v ∈ f.seg ∨ v = f.at') := fun v => by
    unfold TS.D
    constructor
    · rintro ⟨e1, e2⟩
      by_cases e : v ∈ f.seg ∨ v = f.at'
      · exact .inr e
      · exact .inl ⟨e1, fun e3 => by rcases (hst v).1 e3 with e3 | e3; exact e e3; exact e2 e3⟩
    · rintro (⟨e1, e2⟩ | e)
      · exact ⟨e1, fun e3 => e2 ((hst v).2 (.inr e3))⟩
      · exact ⟨h.pos v ((hst v).2 (.inl e)), hdis v e⟩
  have hold : ∀ v, s.D v → comp' v = s.comp v := fun v hv => hc2 v (fun e => hv.2 ((hst v).2 (.inl e)))
  have hreach : ∀ v, v ∈ f.seg ∨ v = f.at' → Reach deps f.at' v ∧ Reach deps v f.at' := fun v hv => by
    rcases hv with hv | rfl
    · exact h1 v hv
    · exact ⟨Reach.refl _, Reach.refl _⟩
  have hedge : ∀ v, v ∈ f.seg ∨ v = f.at' → ∀ w ∈ deps v, s.E (s.low f.at') w := fun v hv w hw => by
    rcases hv with hv | rfl
    · exact h5 v hv w hw
    · exact h6 w (by rw [List.take_of_length_le hn]; exact hw)
  refine ⟨h.bnd, h.omet, ?_, fun v hv => h.pos v ((hst v).2 (.inr hv)), fun v hv w hw => ?_, fun v hv => ?_, fun u v hu hv e => ?_, ?_⟩
  · have hord := h.ord
    rw [hfr] at hord
    exact (List.pairwise_cons.1 (List.pairwise_append.1 hord).2.1).2
  · rcases (hD v).1 hv with hv | hv
    · have e := h.dedge v hv w hw
      refine ⟨(hD w).2 (.inl e.1), ?_⟩
      show comp' w ≤ comp' v
      rw [hold w e.1, hold v hv]; exact e.2
    · have e := hedge v hv w hw
      by_cases ew : w ∈ stackOf s.fr
      · have e2 := e.2 ew
        have ew2 : w ∈ f.seg ∨ w = f.at' := by
          rcases (hst w).1 ew with e3 | e3
          · exact e3
          · have := s2 w e3; omega
        refine ⟨(hD w).2 (.inr ew2), ?_⟩
        show comp' w ≤ comp' v
        rw [hc1 w ew2, hc1 v hv]; exact Nat.le_refl _
      · have hw : s.D w := ⟨e.1, ew⟩
        refine ⟨(hD w).2 (.inl hw), ?_⟩
        show comp' w ≤ comp' v
        rw [hold w hw, hc1 v hv]
        exact Nat.le_of_lt (h.dcomp w hw)
  · show comp' v < s.found + 1
    rcases (hD v).1 hv with hv | hv
    · rw [hold v hv]; have := h.dcomp v hv; omega
    · rw [hc1 v hv]; omega
  · have e' : comp' u = comp' v := e
    rcases (hD u).1 hu with hu | hu <;> rcases (hD v).1 hv with hv | hv
    · rw [hold u hu, hold v hv] at e'
      exact h.dsc u v hu hv e'
    · rw [hold u hu, hc1 v hv] at e'
      have := h.dcomp u hu; omega
    · rw [hold v hv, hc1 u hu] at e'
      have := h.dcomp v hv; omega
    · exact (hreach u hu).2.trans (hreach v hv).1
  · exact h7.mono (fun v hv => rfl) hlow (fun l x hx => ⟨hx.1, fun hx2 => hx.2 ((hst x).2 (.inr hx2))⟩)

/-- At the very start. -/
theorem tinv_start (comp : Nat → Nat) (low : Nat → Nat) : TInv deps n ⟨fun _ => 0, low, comp, [], 0, 0⟩ :=
  ⟨fun v hv => absurd rfl hv, fun v => Nat.le_refl _, List.Pairwise.nil, fun v hv => by simp [stackOf] at hv, fun v hv => absurd rfl hv.1, fun v hv => absurd rfl hv.1, fun u v hu => absurd rfl hu.1, trivial⟩

/-- WHAT THE COMPONENTS ARE GOOD FOR. -/
structure Comps (deps : Nat → List Nat) (n : Nat) (comp : Nat → Nat) : Prop where
  mono : ∀ v, v < n → ∀ w ∈ deps v, comp w ≤ comp v
  reach : ∀ u v, u < n → v < n → comp u = comp v → Reach deps u v

theorem TInv.comps (h : TInv deps n s) (hfr : s.fr = []) (hall : ∀ v, v < n → s.order v ≠ 0) : Comps deps n s.comp := by
  have hD : ∀ v, v < n → s.D v := fun v hv => ⟨hall v hv, by rw [hfr]; simp [stackOf]⟩
  exact ⟨fun v hv w hw => (h.dedge v (hD v hv) w hw).2, fun u v hu hv e => h.dsc u v (hD u hu) (hD v hv) e⟩
end
end Go.Proofs.Qxb6600314a
