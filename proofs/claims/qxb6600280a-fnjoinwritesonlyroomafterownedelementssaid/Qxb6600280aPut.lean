/-
  WALK for seat b6600280a: (*chunkList).join (39), ZZJoin (24).
-/
import Derived.Test.Qxb6600280aInv
namespace Go.Proofs.Qxb6600280a
open Go.RowKit
set_option linter.unusedVariables false
attribute [local go_sem ↓] Go.wp_at_zero Go.wp_at_succ

/-- What join leaves. -/
structure JPost (w w' : World) (pl ca : Nat) (R0 : List Rec) (bc : Nat → List Int) : Prop where
  buf : ∀ q ∈ R0, ∃ bs, Row w' q.g q.L bs ∧ bs.take q.keep = (bc q.g).take q.keep
  os : w'.os = w.os
  tape : w'.tape = w.tape
  output : w'.output = w.output
  size : w.heap.size ≤ w'.heap.size
  other : ∀ k, k < w.heap.size → k ≠ pl → k ≠ ca → (∀ q ∈ R0, k ≠ q.g) → w'.heap[k]? = w.heap[k]?

theorem JPost.of {w wr w' : World} {pl ca n cap : Nat} {R0 : List Rec} {bc : Nat → List Int} {rs : Nat → Rec} (h : JInv w wr pl ca n cap R0 bc rs) (hf : Fixed w pl ca n cap R0) (ho : Only2 pl ca wr w') : JPost w w' pl ca R0 bc := by
  refine ⟨fun q hq => ?_, ho.os.trans h.os, ho.tape.trans h.tape, ho.output.trans h.output, Nat.le_trans h.size ho.size, fun k hk h1 h2 h3 => (ho.block k (Nat.lt_of_lt_of_le hk h.size) h1 h2).trans (h.other k hk h2 h3)⟩
  obtain ⟨bs, hr, ht⟩ := h.buf q hq
  exact ⟨bs, ⟨hr.1, (ho.block _ hr.lt (hf.lt q hq).2.1 (hf.lt q hq).2.2).trans hr.2⟩, ht⟩

/-- The five cells of a record, one by one. -/
theorem At.all {wr : World} {ca j : Nat} {r : Rec} (h : At wr ca j r) : wr.cell? ⟨ca, j * 5, none⟩ = some (.slice (some ⟨r.g, 0, none⟩) r.L r.L) ∧ wr.cell? ⟨ca, j * 5 + 1, none⟩ = some (.int .i64 r.s) ∧ wr.cell? ⟨ca, j * 5 + 2, none⟩ = some (.int .i64 r.e) ∧
    wr.cell? ⟨ca, j * 5 + 3, none⟩ = some (.int .i64 r.c) ∧ wr.cell? ⟨ca, j * 5 + 4, none⟩ = some (.bool r.o) :=
  ⟨h 0 (by omega), h 1 (by omega), h 2 (by omega), h 3 (by omega), h 4 (by omega)⟩

/-- A whole record written over the j-th. -/
def put5 (W : World) (ca j : Nat) (r : Rec) : World :=
  ((((W.setCell ⟨ca, j * 5, none⟩ (.slice (some ⟨r.g, 0, none⟩) r.L r.L)).setCell ⟨ca, j * 5 + 1, none⟩ (.int .i64 r.s)).setCell ⟨ca, j * 5 + 2, none⟩ (.int .i64 r.e)).setCell ⟨ca, j * 5 + 3, none⟩ (.int .i64 r.c)).setCell ⟨ca, j * 5 + 4, none⟩ (.bool r.o)

theorem grown_set {W0 W : World} {ca : Nat} (h : W0.grownBy W (some ca)) (i : Nat) (v : Value) : W0.grownBy (W.setCell ⟨ca, i, none⟩ v) (some ca) :=
  ⟨h.os, h.tape, h.output, by simpa [World.setCell] using h.size, fun k hk hne => (Below.heap_setCell _ _ _ _ (by simpa using hne)).trans (h.block k hk hne)⟩

theorem arr_other {W : World} {ca i i' : Nat} (v : Value) (h : i' ≠ i) : (W.setCell ⟨ca, i, none⟩ v).cell? ⟨ca, i', none⟩ = W.cell? ⟨ca, i', none⟩ := World.cell?_setCell_other _ _ _ _ (by simp only [ne_eq, Addr.mk.injEq, true_and, and_true]; exact fun e => h e.symm)

theorem JInv.put {w wr : World} {pl ca n cap : Nat} {R0 : List Rec} {bc : Nat → List Int} {rs : Nat → Rec} (h : JInv w wr pl ca n cap R0 bc rs) (hf : Fixed w pl ca n cap R0) {j : Nat} (hj : j < n) {r : Rec} (hr : Ok w wr R0 r) :
    JInv w (put5 wr ca j r) pl ca n cap R0 bc (fun k => if k = j then r else rs k) := by
  have hnc := hf.ncap
  have hg : wr.grownBy wr (some ca) := ⟨rfl, rfl, rfl, Nat.le_refl _, fun _ _ _ => rfl⟩
  refine h.setrec hf hj hr (arr_set (arr_set (arr_set (arr_set (arr_set h.arr))))) (grown_set (grown_set (grown_set (grown_set (grown_set hg _ _) _ _) _ _) _ _) _ _) ?_ ?_
  · have A0 := h.arr
    have A1 := arr_set (i := j * 5) (v := .slice (some ⟨r.g, 0, none⟩) r.L r.L) A0
    have A2 := arr_set (i := j * 5 + 1) (v := .int .i64 r.s) A1
    have A3 := arr_set (i := j * 5 + 2) (v := .int .i64 r.e) A2
    have A4 := arr_set (i := j * 5 + 3) (v := .int .i64 r.c) A3
    intro i hi
    rcases (show i = 0 ∨ i = 1 ∨ i = 2 ∨ i = 3 ∨ i = 4 from by omega) with rfl | rfl | rfl | rfl | rfl
    · unfold put5
      rw [arr_other _ (by omega), arr_other _ (by omega), arr_other _ (by omega), arr_other _ (by omega)]
      obtain ⟨v, hv⟩ := arr_cell A0 (i := j * 5) (by omega)
      exact World.cell?_setCell_same _ _ _ hv
    · unfold put5
      rw [arr_other _ (by omega), arr_other _ (by omega), arr_other _ (by omega)]
      obtain ⟨v, hv⟩ := arr_cell A1 (i := j * 5 + 1) (by omega)
      exact World.cell?_setCell_same _ _ _ hv
    · unfold put5
      rw [arr_other _ (by omega), arr_other _ (by omega)]
      obtain ⟨v, hv⟩ := arr_cell A2 (i := j * 5 + 2) (by omega)
      exact World.cell?_setCell_same _ _ _ hv
    · unfold put5
      rw [arr_other _ (by omega)]
      obtain ⟨v, hv⟩ := arr_cell A3 (i := j * 5 + 3) (by omega)
      exact World.cell?_setCell_same _ _ _ hv
    · unfold put5
      obtain ⟨v, hv⟩ := arr_cell A4 (i := j * 5 + 4) (by omega)
      exact World.cell?_setCell_same _ _ _ hv
  · intro j' hj' hne i hi
    unfold put5
    rw [arr_other _ (by omega), arr_other _ (by omega), arr_other _ (by omega), arr_other _ (by omega), arr_other _ (by omega)]

/-- The end and the count alone. -/
theorem JInv.put2 {w wr : World} {pl ca n cap : Nat} {R0 : List Rec} {bc : Nat → List Int} {rs : Nat → Rec} (h : JInv w wr pl ca n cap R0 bc rs) (hf : Fixed w pl ca n cap R0) {j : Nat} (hj : j < n) {r : Rec} (hr : Ok w wr R0 r) (eg : r.g = (rs j).g) (eL : r.L = (rs j).L) (es : r.s = (rs j).s) (eo : r.o = (rs j).o) (m : Nat) :
    JInv w (((wr.setCell ⟨ca, j * 5 + 2, none⟩ (.int .i64 r.e)).drewN m).setCell ⟨ca, j * 5 + 3, none⟩ (.int .i64 r.c)) pl ca n cap R0 bc (fun k => if k = j then r else rs k) := by
  have hnc := hf.ncap
  obtain ⟨g0, g1, g2, g3, g4⟩ := (h.at' j hj).all
  have hg : wr.grownBy wr (some ca) := ⟨rfl, rfl, rfl, Nat.le_refl _, fun _ _ _ => rfl⟩
  have hA1 := arr_set (i := j * 5 + 2) (v := .int .i64 r.e) h.arr
  have hg1 := grown_set hg (j * 5 + 2) (.int .i64 r.e)
  have hA2 : Arr ((wr.setCell ⟨ca, j * 5 + 2, none⟩ (.int .i64 r.e)).drewN m) ca cap := hA1
  have hg2 : wr.grownBy ((wr.setCell ⟨ca, j * 5 + 2, none⟩ (.int .i64 r.e)).drewN m) (some ca) := ⟨hg1.os, hg1.tape, hg1.output, hg1.size, hg1.block⟩
  have hd : ∀ i, ((wr.setCell ⟨ca, j * 5 + 2, none⟩ (.int .i64 r.e)).drewN m).cell? ⟨ca, i, none⟩ = (wr.setCell ⟨ca, j * 5 + 2, none⟩ (.int .i64 r.e)).cell? ⟨ca, i, none⟩ := fun _ => rfl
  refine h.setrec hf hj hr (arr_set hA2) (grown_set hg2 _ _) ?_ ?_
  · intro i hi
    rcases (show i = 0 ∨ i = 1 ∨ i = 2 ∨ i = 3 ∨ i = 4 from by omega) with rfl | rfl | rfl | rfl | rfl
    · rw [arr_other _ (by omega), hd, arr_other _ (by omega)]
      simp only [Rec.cells, eg, eL]
      exact g0
    · rw [arr_other _ (by omega), hd, arr_other _ (by omega)]
      simp only [Rec.cells, es]
      exact g1
    · rw [arr_other _ (by omega), hd]
      exact World.cell?_setCell_same _ _ _ g2
    · obtain ⟨v, hv⟩ := arr_cell hA2 (i := j * 5 + 3) (by omega)
      exact World.cell?_setCell_same _ _ _ hv
    · rw [arr_other _ (by omega), hd, arr_other _ (by omega)]
      simp only [Rec.cells, eo]
      exact g4
  · intro j' hj' hne i hi
    rw [arr_other _ (by omega), hd, arr_other _ (by omega)]
end Go.Proofs.Qxb6600280a
