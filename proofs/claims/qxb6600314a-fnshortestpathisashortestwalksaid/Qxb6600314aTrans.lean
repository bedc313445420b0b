/-
  PLAIN LAW for seat b6600314a: transpose (the reversed edges in compressed form).
-/
import Derived.Test.Qxb6600314aBfs
namespace Go.Proofs.Qxb6600314a
set_option linter.unusedVariables false

def sumN : Nat → (Nat → Nat) → Nat
  | 0, _ => 0
  | n + 1, f => sumN n f + f n
theorem sumN_le {f g : Nat → Nat} : ∀ n, (∀ i, i < n → f i ≤ g i) → sumN n f ≤ sumN n g := by
  intro n
  induction n with
  | zero => intro _; exact Nat.le_refl _
  | succ n ih =>
    intro h
    have h1 := ih (fun i hi => h i (by omega))
    have h2 := h n (by omega)
    simp only [sumN]
    omega
theorem sumN_mono {f : Nat → Nat} {m n : Nat} (h : m ≤ n) : sumN m f ≤ sumN n f := by
  induction n with
  | zero => have : m = 0 := by omega
            subst this; exact Nat.le_refl _
  | succ n ih =>
    by_cases e : m = n + 1
    · subst e; exact Nat.le_refl _
    · have := ih (by omega)
      simp only [sumN]
      omega
theorem sumN_add (f g : Nat → Nat) : ∀ n, sumN n (fun i => f i + g i) = sumN n f + sumN n g := by
  intro n
  induction n with
  | zero => rfl
  | succ n ih => simp only [sumN, ih]; omega
theorem sumN_zero : ∀ n, sumN n (fun _ => 0) = 0 := by
  intro n
  induction n with
  | zero => rfl
  | succ n ih => simp only [sumN, ih]
theorem sumN_const (c : Nat) : ∀ n, sumN n (fun _ => c) = n * c := by
  intro n
  induction n with
  | zero => simp [sumN]
  | succ n ih => simp only [sumN, ih, Nat.add_mul, Nat.one_mul]
theorem sumN_one {a : Nat} : ∀ n, a < n → sumN n (fun i => if i = a then 1 else 0) = 1 := by
  intro n
  induction n with
  | zero => intro h; omega
  | succ n ih =>
    intro h
    simp only [sumN]
    by_cases e : n = a
    · subst e
      have : sumN n (fun i => if i = n then 1 else 0) = sumN n (fun _ => 0) := Nat.le_antisymm (sumN_le n (fun i hi => by rw [if_neg (by omega)]; exact Nat.le_refl _)) (sumN_le n (fun i hi => by omega))
      rw [this, sumN_zero]
      simp
    · rw [ih (by omega), if_neg e]
theorem sumN_count {n : Nat} : ∀ l : List Nat, (∀ x ∈ l, x < n) → sumN n (fun w => l.count w) = l.length := by
  intro l
  induction l with
  | nil => intro _; simpa using sumN_zero n
  | cons a l ih =>
    intro h
    have h1 : sumN n (fun w => (a :: l).count w) = sumN n (fun w => l.count w + if w = a then 1 else 0) := by
      congr 1
      funext w
      rw [List.count_cons]
      by_cases e : w = a
      · simp [e]
      · simp [e, Ne.symm e]
    rw [h1, sumN_add, ih (fun x hx => h x (by simp [hx])), sumN_one n (h a (by simp))]
    simp

/-- How many edges to w from the positions below v. -/
def cum (deps : Nat → List Nat) (v w : Nat) : Nat := sumN v fun u => (deps u).count w
/-- The starts. -/
def sts (deps : Nat → List Nat) (n w : Nat) : Nat := sumN w (cum deps n)
def cur (deps : Nat → List Nat) (v k w : Nat) : Nat := cum deps v w + ((deps v).take k).count w

section
variable {deps : Nat → List Nat} {n : Nat}

theorem cur_zero (v w : Nat) : cur deps v 0 w = cum deps v w := by simp [cur]
theorem cur_full {v k : Nat} (h : (deps v).length ≤ k) (w : Nat) : cur deps v k w = cum deps (v + 1) w := by
  rw [cur, List.take_of_length_le h]
  rfl
theorem cur_step {v k b : Nat} (h : (deps v)[k]? = some b) (w : Nat) : cur deps v (k + 1) w = cur deps v k w + if w = b then 1 else 0 := by
  obtain ⟨hlt, e⟩ := List.getElem?_eq_some_iff.1 h
  rw [cur, cur, List.take_succ_eq_append_getElem hlt, List.count_append, e]
  by_cases e2 : w = b
  · simp [e2]; omega
  · simp [e2, Ne.symm e2]
theorem cur_le {v k : Nat} (hv : v < n) (w : Nat) : cur deps v k w ≤ cum deps n w := by
  have h1 : cur deps v k w ≤ cum deps (v + 1) w := by
    have : ((deps v).take k).count w ≤ (deps v).count w := (List.take_sublist _ _).count_le _
    exact Nat.add_le_add_left this _
  exact Nat.le_trans h1 (sumN_mono (by omega))
theorem cur_lt {v k b : Nat} (hv : v < n) (h : (deps v)[k]? = some b) : cur deps v k b < cum deps n b := by
  have h1 := cur_step h b
  have h2 := cur_le (deps := deps) (k := k + 1) hv b
  rw [if_pos rfl] at h1
  omega
theorem sts_succ (w : Nat) : sts deps n (w + 1) = sts deps n w + cum deps n w := rfl
theorem sts_apart {w b i j : Nat} (h : w ≠ b) (hi : i < cum deps n w) (hj : j < cum deps n b) : sts deps n w + i ≠ sts deps n b + j := by
  rcases Nat.lt_or_gt_of_ne h with h | h
  · have : sts deps n (w + 1) ≤ sts deps n b := sumN_mono (by omega)
    rw [sts_succ] at this
    omega
  · have : sts deps n (b + 1) ≤ sts deps n w := sumN_mono (by omega)
    rw [sts_succ] at this
    omega
theorem sts_lt {w j : Nat} (hw : w < n) (hj : j < cum deps n w) : sts deps n w + j < sts deps n n := by
  have : sts deps n (w + 1) ≤ sts deps n n := sumN_mono (by omega)
  rw [sts_succ] at this
  omega
theorem sts_bound (hb : ∀ i, i < n → ∀ v ∈ deps i, v < n) (hl : ∀ i, i < n → (deps i).length ≤ 1048576) : sts deps n n ≤ n * 1048576 := by
  have key : ∀ v, v ≤ n → sumN n (cum deps v) ≤ v * 1048576 := by
    intro v
    induction v with
    | zero => intro _; exact Nat.le_trans (Nat.le_of_eq (sumN_zero n)) (Nat.zero_le _)
    | succ v ih =>
      intro hv
      have h1 := ih (by omega)
      have h2 : sumN n (cum deps (v + 1)) = sumN n (cum deps v) + sumN n (fun w => (deps v).count w) := sumN_add _ _ n
      rw [h2, sumN_count _ (hb v (by omega))]
      have := hl v (by omega)
      omega
  exact key n (Nat.le_refl _)
theorem sts_le (w : Nat) (h : w ≤ n) : sts deps n w ≤ sts deps n n := sumN_mono h
theorem cum_le_all (w : Nat) (h : w < n) : cum deps n w ≤ sts deps n n := by
  have : sts deps n (w + 1) ≤ sts deps n n := sumN_mono (by omega)
  rw [sts_succ] at this
  omega

/-- The filling. -/
structure FI (deps : Nat → List Nat) (n v k : Nat) (F I : Nat → Nat) : Prop where
  fill : ∀ w, w < n → F w = sts deps n w + cur deps v k w
  src : ∀ w, w < n → ∀ j, j < cur deps v k w → I (sts deps n w + j) < n ∧ w ∈ deps (I (sts deps n w + j))
  all : ∀ w, w < n → ∀ u, (u < v ∧ w ∈ deps u) ∨ (u = v ∧ w ∈ (deps v).take k) → ∃ j, j < cur deps v k w ∧ I (sts deps n w + j) = u

theorem fi_start {F : Nat → Nat} (hF : ∀ w, w < n → F w = sts deps n w) (I : Nat → Nat) : FI deps n 0 0 F I := by
  have h0 : ∀ w, cur deps 0 0 w = 0 := fun w => rfl
  refine ⟨fun w hw => by rw [hF w hw, h0]; rfl, fun w hw j hj => by rw [h0] at hj; omega, fun w hw u hu => ?_⟩
  rcases hu with ⟨h, _⟩ | ⟨_, h⟩
  · omega
  · simp at h

theorem FI.step {v k b : Nat} {F I : Nat → Nat} (h : FI deps n v k F I) (hv : v < n) (hk : (deps v)[k]? = some b) (hb : b < n) : FI deps n v (k + 1) (upd F b (F b + 1)) (upd I (F b) v) := by
  have hlt := cur_lt hv hk
  have hFb := h.fill b hb
  have hmem : b ∈ deps v := List.mem_of_getElem? hk
  have hI : ∀ w, w < n → ∀ j, j < cur deps v k w → upd I (F b) v (sts deps n w + j) = I (sts deps n w + j) := fun w hw j hj => by
    refine upd_other _ _ ?_
    rw [hFb]
    by_cases e : w = b
    · subst e; omega
    · exact sts_apart e (Nat.lt_of_lt_of_le hj (cur_le hv w)) hlt
  refine ⟨fun w hw => ?_, fun w hw j hj => ?_, fun w hw u hu => ?_⟩
  · rw [cur_step hk]
    by_cases e : w = b
    · subst e
      rw [upd_same, if_pos rfl, hFb]
      omega
    · rw [upd_other _ _ e, if_neg e]
      exact h.fill w hw
  · rw [cur_step hk] at hj
    by_cases e : j < cur deps v k w
    · rw [hI w hw j e]
      exact h.src w hw j e
    · have e2 : w = b := by
        by_cases e2 : w = b
        · exact e2
        · rw [if_neg e2] at hj; omega
      subst e2
      rw [if_pos rfl] at hj
      have e3 : j = cur deps v k w := by omega
      rw [e3, ← hFb, upd_same]
      exact ⟨hv, hmem⟩
  · have hold : (∃ j, j < cur deps v k w ∧ I (sts deps n w + j) = u) → ∃ j, j < cur deps v (k + 1) w ∧ upd I (F b) v (sts deps n w + j) = u := fun ⟨j, h1, h2⟩ => ⟨j, by rw [cur_step hk]; omega, by rw [hI w hw j h1]; exact h2⟩
    rcases hu with hu | ⟨rfl, hu⟩
    · exact hold (h.all w hw u (.inl hu))
    · rcases take_bump hk hu with hu | rfl
      · exact hold (h.all w hw u (.inr ⟨rfl, hu⟩))
      · refine ⟨cur deps u k w, by rw [cur_step hk, if_pos rfl]; omega, ?_⟩
        rw [← hFb, upd_same]

theorem FI.next {v k : Nat} {F I : Nat → Nat} (h : FI deps n v k F I) (hk : (deps v).length ≤ k) : FI deps n (v + 1) 0 F I := by
  have hc : ∀ w, cur deps (v + 1) 0 w = cur deps v k w := fun w => by rw [cur_zero, cur_full hk]
  refine ⟨fun w hw => by rw [hc]; exact h.fill w hw, fun w hw j hj => h.src w hw j (by rw [← hc]; exact hj), fun w hw u hu => ?_⟩
  rw [hc]
  refine h.all w hw u ?_
  rcases hu with ⟨h1, h2⟩ | ⟨_, h2⟩
  · by_cases e : u = v
    · subst e
      exact .inr ⟨rfl, by rw [List.take_of_length_le hk]; exact h2⟩
    · exact .inl ⟨by omega, h2⟩
  · simp at h2

/-- Who depends on w. -/
def rdeps (S I : Nat → Nat) (w : Nat) : List Nat := (List.range (S (w + 1) - S w)).map fun j => I (S w + j)
theorem rdeps_get {S I : Nat → Nat} {w j : Nat} (h : j < S (w + 1) - S w) : (rdeps S I w)[j]? = some (I (S w + j)) := by
  unfold rdeps
  rw [List.getElem?_map, List.getElem?_range h]
  rfl
theorem rdeps_len (S I : Nat → Nat) (w : Nat) : (rdeps S I w).length = S (w + 1) - S w := by simp [rdeps]

/-- What transpose answers. -/
structure RevOk (deps : Nat → List Nat) (n : Nat) (S I : Nat → Nat) : Prop where
  up : ∀ w, w < n → S w ≤ S (w + 1) ∧ S (w + 1) ≤ S n
  mem : ∀ w, w < n → ∀ x, x ∈ rdeps S I w ↔ x < n ∧ w ∈ deps x

theorem FI.rev {F I S : Nat → Nat} (h : FI deps n n 0 F I) (hS : ∀ w, w ≤ n → S w = sts deps n w) : RevOk deps n S I := by
  have hw2 : ∀ w, w < n → S (w + 1) = S w + cum deps n w := fun w hw => by rw [hS w (by omega), hS (w + 1) (by omega), sts_succ]
  refine ⟨fun w hw => ⟨by rw [hw2 w hw]; omega, by rw [hS _ (by omega), hS _ (Nat.le_refl _)]; exact sts_le _ (by omega)⟩, fun w hw x => ?_⟩
  have hl : S (w + 1) - S w = cum deps n w := by rw [hw2 w hw]; omega
  unfold rdeps
  rw [hl, hS w (by omega), List.mem_map]
  constructor
  · rintro ⟨j, hj, rfl⟩
    exact h.src w hw j (by rw [cur_zero]; exact List.mem_range.1 hj)
  · rintro ⟨h1, h2⟩
    obtain ⟨j, h3, h4⟩ := h.all w hw x (.inl ⟨h1, h2⟩)
    rw [cur_zero] at h3
    exact ⟨j, List.mem_range.2 h3, h4⟩

/-- A walk back is a walk. -/
theorem RevOk.walk {S I : Nat → Nat} (h : RevOk deps n S I) : ∀ {k u v}, u < n → v < n → Walk (rdeps S I) k u v → Walk deps k v u := by
  intro k
  induction k with
  | zero => intro u v _ _ hw; cases hw; rfl
  | succ k ih =>
    intro u v hu hv hw
    obtain ⟨x, hx, hw⟩ := hw
    obtain ⟨h1, h2⟩ := (h.mem u hu x).1 hx
    exact (ih h1 hv hw).snoc h2
theorem RevOk.walk' {S I : Nat → Nat} (h : RevOk deps n S I) (hb : ∀ i, i < n → ∀ v ∈ deps i, v < n) : ∀ {k u v}, u < n → Walk deps k u v → Walk (rdeps S I) k v u := by
  intro k
  induction k with
  | zero => intro u v _ hw; cases hw; rfl
  | succ k ih =>
    intro u v hu hw
    obtain ⟨x, hx, hw⟩ := hw
    have hxn := hb u hu x hx
    exact (ih hxn hw).snoc ((h.mem x hxn u).2 ⟨hu, hx⟩)
theorem RevOk.bnd {S I : Nat → Nat} (h : RevOk deps n S I) : ∀ i, i < n → ∀ v ∈ rdeps S I i, v < n := fun i hi v hv => ((h.mem i hi v).1 hv).1
end

/-- The search without components: every walk's end is met. -/
theorem BI.along' {deps : Nat → List Nat} {n st en : Nat} {cf : Nat → Option Nat} {d : Nat → Nat} (h : BI deps n (fun _ => 0) st en cf d []) : ∀ k v, Walk deps k st v → ∃ u, cf v = some u ∧ d v ≤ k := by
  intro k
  induction k with
  | zero => intro v hw; cases hw; exact ⟨st, h.st0.1, by rw [h.st0.2]; exact Nat.le_refl _⟩
  | succ k ih =>
    intro v hw
    obtain ⟨x, hx, hv⟩ := hw.last
    obtain ⟨u, hu, hd⟩ := ih x hx
    obtain ⟨_, h2⟩ := h.done x u hu (by simp)
    obtain ⟨⟨y, hy⟩, h3⟩ := h2 v hv rfl
    exact ⟨y, hy, by omega⟩

theorem dist_back {deps : Nat → List Nat} {n : Nat} {S I : Nat → Nat} (hr : RevOk deps n S I) (hb : ∀ i, i < n → ∀ v ∈ deps i, v < n) {en t : Nat} {cf : Nat → Option Nat} {d : Nat → Nat} (h : BI (rdeps S I) n (fun _ => 0) en t cf d []) {st k : Nat} (hst : st < n) (hen : en < n) (hd : IsDist deps st en k) :
    (∃ u, cf st = some u) ∧ d st = k := by
  obtain ⟨u, hu, h1⟩ := h.along' k st (hr.walk' hb hst hd.1)
  have h2 := h.walk (d st) st u hu rfl
  have h3 := hd.2 _ (hr.walk hen hst h2)
  exact ⟨⟨u, hu⟩, by omega⟩
end Go.Proofs.Qxb6600314a
