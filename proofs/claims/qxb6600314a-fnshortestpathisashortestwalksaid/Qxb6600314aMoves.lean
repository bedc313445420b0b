/-
  THE MOVES OF THE MEMORY OF components for seat b6600314a.
-/
import Derived.Test.Qxb6600314aMem
namespace Go.Proofs.Qxb6600314a
open Go.RowKit
set_option linter.unusedVariables false

theorem irow_get {n : Nat} {f : Nat → Nat} {v : Nat} (h : v < n) : (irow n f)[v]? = some (.int .i64 (f v : Int)) := by
  simp [irow, ints, h]
theorem irow_set (n : Nat) (f : Nat → Nat) (v b : Nat) : (irow n f).setIfInBounds v (.int .i64 (b : Int)) = irow n (upd f v b) := by
  apply Array.ext'
  simp only [irow, ints, Array.toList_setIfInBounds, List.toList_toArray]
  apply List.ext_getElem?
  intro i
  by_cases h : i < n
  · by_cases e : i = v
    · subst e
      simp [h, upd_same]
    · rw [List.getElem?_set_ne (Ne.symm e)]
      simp [h, upd_other _ _ e]
  · simp [h]
def updB (f : Nat → Bool) (a : Nat) (b : Bool) : Nat → Bool := fun x => if x = a then b else f x
theorem brow_get {n : Nat} {f : Nat → Bool} {v : Nat} (h : v < n) : (brow n f)[v]? = some (.bool (f v)) := by
  simp [brow, h]
theorem brow_set (n : Nat) (f : Nat → Bool) (v : Nat) (b : Bool) : (brow n f).setIfInBounds v (.bool b) = brow n (updB f v b) := by
  apply Array.ext'
  simp only [brow, Array.toList_setIfInBounds, List.toList_toArray]
  apply List.ext_getElem?
  intro i
  by_cases h : i < n
  · by_cases e : i = v
    · subst e
      simp [h, updB]
    · rw [List.getElem?_set_ne (Ne.symm e)]
      simp [h, updB, e]
  · simp [h]

theorem cell_blk {W : World} {b i : Nat} {cs : Array Value} {t : TypeId} {v : Value} (h : W.heap[b]? = some (.cells cs t (0, 0))) (hv : cs[i]? = some v) : W.cell? ⟨b, i, none⟩ = some v := by
  simp [World.cell?, h, hv]
theorem free_blk {W : World} {b i : Nat} {cs : Array Value} {t : TypeId} (h : W.heap[b]? = some (.cells cs t (0, 0))) : W.frozen? ⟨b, i, none⟩ = false := by
  simp [World.frozen?, h]

section
variable {w wr : World} {x : Fx} {S : List Nat} {C : List (Nat × Nat)}

/-- The boxes. -/
theorem Mem.boxes (h : Mem w wr x S C) : wr.cell? ⟨w.heap.size + 1, 0, none⟩ = some (.slice (some ⟨w.heap.size, 0, none⟩) x.n x.n) ∧ wr.cell? ⟨w.heap.size + 3, 0, none⟩ = some (.slice (some ⟨w.heap.size + 2, 0, none⟩) x.n x.n) ∧
    wr.cell? ⟨w.heap.size + 5, 0, none⟩ = some (.slice (some ⟨w.heap.size + 4, 0, none⟩) x.n x.n) ∧ wr.cell? ⟨w.heap.size + 7, 0, none⟩ = some x.v1 ∧ wr.cell? ⟨w.heap.size + 8, 0, none⟩ = some (.int .i64 (x.met : Int)) ∧ wr.cell? ⟨w.heap.size + 9, 0, none⟩ = some x.v2 :=
  ⟨cell_blk (h.blk 1 (by omega)) rfl, cell_blk (h.blk 3 (by omega)) rfl, cell_blk (h.blk 5 (by omega)) rfl, cell_blk (h.blk 7 (by omega)) rfl, cell_blk (h.blk 8 (by omega)) rfl, cell_blk (h.blk 9 (by omega)) rfl⟩
theorem Mem.free (h : Mem w wr x S C) {i : Nat} (hi : i < 10) (j : Nat) : wr.frozen? ⟨w.heap.size + i, j, none⟩ = false := by
  have := h.blk i hi
  unfold Fx.obj at this
  split at this <;> exact free_blk this
theorem Mem.cO (h : Mem w wr x S C) {v : Nat} (hv : v < x.n) : wr.cell? ⟨w.heap.size, v, none⟩ = some (.int .i64 (x.o v : Int)) := cell_blk (h.blk 0 (by omega)) (irow_get hv)
theorem Mem.cL (h : Mem w wr x S C) {v : Nat} (hv : v < x.n) : wr.cell? ⟨w.heap.size + 2, v, none⟩ = some (.int .i64 (x.l v : Int)) := cell_blk (h.blk 2 (by omega)) (irow_get hv)
theorem Mem.cK (h : Mem w wr x S C) {v : Nat} (hv : v < x.n) : wr.cell? ⟨w.heap.size + 4, v, none⟩ = some (.bool (x.k v)) := cell_blk (h.blk 4 (by omega)) (brow_get hv)
theorem Mem.cC (h : Mem w wr x S C) {v : Nat} (hv : v < x.n) : wr.cell? ⟨w.heap.size + 6, v, none⟩ = some (.int .i64 (x.c v : Int)) := cell_blk (h.blk 6 (by omega)) (irow_get hv)

theorem obj_ne {x x' : Fx} {N i : Nat} (h : ∀ q, q < 10 → q ≠ i → x'.obj N q = x.obj N q) : ∀ q, q < 10 → q ≠ i → x'.obj N q = x.obj N q := h

theorem Mem.setO (h : Mem w wr x S C) (v b : Nat) : Mem w (wr.setCell ⟨w.heap.size, v, none⟩ (.int .i64 (b : Int))) { x with o := upd x.o v b } S C := by
  refine h.set (i := 0) (j := v) (by omega) (fun q hq hne => ?_) rfl rfl ?_
  · unfold Fx.obj; split <;> first | rfl | omega
  · rw [show (⟨w.heap.size + 0, v, none⟩ : Addr) = ⟨w.heap.size, v, none⟩ from rfl]
    have := heap_setCell_same (i := v) (h.blk 0 (by omega)) (.int .i64 (b : Int))
    rw [irow_set] at this
    exact this
theorem Mem.setL (h : Mem w wr x S C) (v b : Nat) : Mem w (wr.setCell ⟨w.heap.size + 2, v, none⟩ (.int .i64 (b : Int))) { x with l := upd x.l v b } S C := by
  refine h.set (i := 2) (j := v) (by omega) (fun q hq hne => ?_) rfl rfl ?_
  · unfold Fx.obj; split <;> first | rfl | omega
  · have := heap_setCell_same (i := v) (h.blk 2 (by omega)) (.int .i64 (b : Int))
    rw [irow_set] at this
    exact this
theorem Mem.setK (h : Mem w wr x S C) (v : Nat) (b : Bool) : Mem w (wr.setCell ⟨w.heap.size + 4, v, none⟩ (.bool b)) { x with k := updB x.k v b } S C := by
  refine h.set (i := 4) (j := v) (by omega) (fun q hq hne => ?_) rfl rfl ?_
  · unfold Fx.obj; split <;> first | rfl | omega
  · have := heap_setCell_same (i := v) (h.blk 4 (by omega)) (.bool b)
    rw [brow_set] at this
    exact this
theorem Mem.setC (h : Mem w wr x S C) (v b : Nat) : Mem w (wr.setCell ⟨w.heap.size + 6, v, none⟩ (.int .i64 (b : Int))) { x with c := upd x.c v b } S C := by
  refine h.set (i := 6) (j := v) (by omega) (fun q hq hne => ?_) rfl rfl ?_
  · unfold Fx.obj; split <;> first | rfl | omega
  · have := heap_setCell_same (i := v) (h.blk 6 (by omega)) (.int .i64 (b : Int))
    rw [irow_set] at this
    exact this
theorem Mem.setMet (h : Mem w wr x S C) (b : Nat) : Mem w (wr.setCell ⟨w.heap.size + 8, 0, none⟩ (.int .i64 (b : Int))) { x with met := b } S C := by
  refine h.set (i := 8) (j := 0) (by omega) (fun q hq hne => ?_) rfl rfl ?_
  · unfold Fx.obj; split <;> first | rfl | omega
  · have := heap_setCell_same (i := 0) (h.blk 8 (by omega)) (.int .i64 (b : Int))
    exact this

/-- Draws and new blocks turn nothing. -/
theorem Mem.fresh (h : Mem w wr x S C) {w' : World} (hb : Below wr.heap.size wr w') : Mem w w' x S C := by
  have hs := h.szs
  exact ⟨h.below.trans ⟨hb.os, hb.tape, hb.output, hb.size, fun k hk => hb.block k (by omega)⟩, fun i hi => (hb.block _ (by omega)).trans (h.blk i hi), owns_block h.st fun g _ hg => hb.block g hg, owns_block h.ca fun g _ hg => hb.block g hg, h.ne⟩
theorem Mem.drewN (h : Mem w wr x S C) (m : Nat) : Mem w (wr.drewN m) x S C := h.fresh ⟨rfl, rfl, rfl, Nat.le_refl _, fun _ _ => rfl⟩
theorem Mem.al (h : Mem w wr x S C) (ob : Obj) : Mem w (wr.alloc ob) x S C := h.fresh ((Below.refl _ _).alloc (Nat.le_refl _) ob)

theorem Mem.b1 (h : Mem w wr x S C) {g : Nat} (hg : x.v1.ownBlock = some g) : w.heap.size + 10 ≤ g ∧ g < wr.heap.size := h.st.lt g hg
theorem Mem.b2 (h : Mem w wr x S C) {g : Nat} (hg : x.v2.ownBlock = some g) : w.heap.size + 10 ≤ g ∧ g < wr.heap.size := h.ca.lt g hg

/-- The stack's row and box. -/
theorem Mem.newS (h : Mem w wr x S C) {w' : World} {g m cap : Nat} {S' : List Nat} (hg : wr.grownBy w' x.v1.ownBlock) (ho : w'.ownsRow (w.heap.size + 10) 3 1 (.slice (some ⟨g, 0, none⟩) m cap) S'.length (ints S')) (hat : x.v1.ownBlock = some g ∨ wr.heap.size ≤ g) :
    Mem w (w'.setCell ⟨w.heap.size + 7, 0, none⟩ (.slice (some ⟨g, 0, none⟩) m cap)) { x with v1 := .slice (some ⟨g, 0, none⟩) m cap } S' C := by
  have hs := h.szs
  have hg10 : w.heap.size + 10 ≤ g := by rcases hat with e | e; exact (h.b1 e).1; omega
  have hlow : ∀ k, k < w.heap.size + 10 → w'.heap[k]? = wr.heap[k]? := fun k hk => hg.block k (by omega) (fun e => by have := (h.b1 e.symm).1; omega)
  have hb : ∀ k, k ≠ w.heap.size + 7 → (w'.setCell ⟨w.heap.size + 7, 0, none⟩ (.slice (some ⟨g, 0, none⟩) m cap)).heap[k]? = w'.heap[k]? := fun k hk => Below.heap_setCell _ _ _ _ hk
  refine ⟨(h.below.trans ⟨hg.os, hg.tape, hg.output, hg.size, fun k hk => hlow k (by omega)⟩).setCell (by simp) _, fun q hq => ?_, ?_, ?_, ?_⟩
  · by_cases e : q = 7
    · subst e
      exact heap_setCell_same ((hlow _ (by omega)).trans (h.blk 7 (by omega))) _
    · rw [hb _ (by omega), hlow _ (by omega), h.blk q hq]
      unfold Fx.obj; split <;> first | rfl | omega
  · exact owns_block ho fun k hk hlt => hb k (by obtain rfl : g = k := by simpa [Value.ownBlock] using hk
                                                 omega)
  · exact owns_block h.ca fun k hk hlt => (hb k (by have := (h.b2 hk).1; omega)).trans (hg.block k hlt (fun e => h.ne k e.symm hk))
  · intro k hk e
    obtain rfl : g = k := by simpa [Value.ownBlock] using hk
    rcases hat with e' | e'
    · exact h.ne g e' e
    · have := (h.b2 e).2
      omega
/-- The calls' row and box. -/
theorem Mem.newC (h : Mem w wr x S C) {w' : World} {g m cap : Nat} {C' : List (Nat × Nat)} (hg : wr.grownBy w' x.v2.ownBlock) (ho : w'.ownsRow (w.heap.size + 10) 38 2 (.slice (some ⟨g, 0, none⟩) m cap) C'.length (calls C')) (hat : x.v2.ownBlock = some g ∨ wr.heap.size ≤ g) :
    Mem w (w'.setCell ⟨w.heap.size + 9, 0, none⟩ (.slice (some ⟨g, 0, none⟩) m cap)) { x with v2 := .slice (some ⟨g, 0, none⟩) m cap } S C' := by
  have hs := h.szs
  have hg10 : w.heap.size + 10 ≤ g := by rcases hat with e | e; exact (h.b2 e).1; omega
  have hlow : ∀ k, k < w.heap.size + 10 → w'.heap[k]? = wr.heap[k]? := fun k hk => hg.block k (by omega) (fun e => by have := (h.b2 e.symm).1; omega)
  have hb : ∀ k, k ≠ w.heap.size + 9 → (w'.setCell ⟨w.heap.size + 9, 0, none⟩ (.slice (some ⟨g, 0, none⟩) m cap)).heap[k]? = w'.heap[k]? := fun k hk => Below.heap_setCell _ _ _ _ hk
  refine ⟨(h.below.trans ⟨hg.os, hg.tape, hg.output, hg.size, fun k hk => hlow k (by omega)⟩).setCell (by simp) _, fun q hq => ?_, ?_, ?_, ?_⟩
  · by_cases e : q = 9
    · subst e
      exact heap_setCell_same ((hlow _ (by omega)).trans (h.blk 9 (by omega))) _
    · rw [hb _ (by omega), hlow _ (by omega), h.blk q hq]
      rcases (show q = 0 ∨ q = 1 ∨ q = 2 ∨ q = 3 ∨ q = 4 ∨ q = 5 ∨ q = 6 ∨ q = 7 ∨ q = 8 from by omega) with rfl | rfl | rfl | rfl | rfl | rfl | rfl | rfl | rfl <;> rfl
  · exact owns_block h.st fun k hk hlt => (hb k (by have := (h.b1 hk).1; omega)).trans (hg.block k hlt (fun e => h.ne k hk e.symm))
  · exact owns_block ho fun k hk hlt => hb k (by obtain rfl : g = k := by simpa [Value.ownBlock] using hk
                                                 omega)
  · intro k hk e
    obtain rfl : g = k := by simpa [Value.ownBlock] using e
    rcases hat with e' | e'
    · exact h.ne g hk e'
    · have := (h.b1 hk).2
      omega
end
end Go.Proofs.Qxb6600314a
