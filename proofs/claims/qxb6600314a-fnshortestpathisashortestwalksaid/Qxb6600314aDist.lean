/-
  WALK for seat b6600314a: distancesTo (17), hasEdge (16).
-/
import Derived.Test.Qxb6600314aTwalk
import Derived.Test.Qxb6600314aBMem
namespace Go.Proofs.Qxb6600314a
open Go.RowKit
set_option linter.unusedVariables false

def zrow (n : Nat) (f : Nat → Int) : Array Value := ((List.range n).map fun v => Value.int .i64 (f v)).toArray
def updZ (f : Nat → Int) (a : Nat) (b : Int) : Nat → Int := fun x => if x = a then b else f x
theorem updZ_same (f : Nat → Int) (a : Nat) (b : Int) : updZ f a b a = b := by simp [updZ]
theorem updZ_other (f : Nat → Int) {a x : Nat} (b : Int) (h : x ≠ a) : updZ f a b x = f x := by simp [updZ, h]
theorem zrow_get {n : Nat} {f : Nat → Int} {v : Nat} (h : v < n) : (zrow n f)[v]? = some (.int .i64 (f v)) := by
  simp [zrow, h]
theorem zrow_set (n : Nat) (f : Nat → Int) (v : Nat) (b : Int) : (zrow n f).setIfInBounds v (.int .i64 b) = zrow n (updZ f v b) := by
  apply Array.ext'
  simp only [zrow, Array.toList_setIfInBounds, List.toList_toArray]
  apply List.ext_getElem?
  intro i
  by_cases h : i < n
  · by_cases e : i = v
    · subst e
      simp [h, updZ_same]
    · rw [List.getElem?_set_ne (Ne.symm e)]
      simp [h, updZ_other _ _ e]
  · simp [h]
theorem zrow_congr {n : Nat} {f g : Nat → Int} (h : ∀ i, i < n → f i = g i) : zrow n f = zrow n g := by
  unfold zrow
  congr 1
  exact List.map_congr_left (fun i hi => by rw [h i (List.mem_range.1 hi)])
theorem zrow0 (n : Nat) : zrow n (fun _ => 0) = madeCells #[.int .i64 0] n := by
  apply Array.ext'
  rw [toList_madeCells_one]
  simp [zrow]
  apply List.ext_getElem?
  intro i
  by_cases h : i < n <;> simp [h]

/-- The distances as they stand. -/
def df (cf : Nat → Option Nat) (d : Nat → Nat) (v : Nat) : Int := if (cf v).isNone then -1 else (d v : Int)
theorem df_none {cf : Nat → Option Nat} {d : Nat → Nat} {v : Nat} (h : cf v = none) : df cf d v = -1 := by simp [df, h]
theorem df_some {cf : Nat → Option Nat} {d : Nat → Nat} {v u : Nat} (h : cf v = some u) : df cf d v = (d v : Int) := by simp [df, h]
theorem df_set (cf : Nat → Option Nat) (d : Nat → Nat) (a b k : Nat) (v : Nat) : updZ (df cf d) b (k : Int) v = df (setC cf b a) (upd d b k) v := by
  by_cases e : v = b
  · subst e
    rw [updZ_same, df_some (setC_same _ _ _), upd_same]
  · rw [updZ_other _ _ e]
    simp only [df, setC_other _ _ e, upd_other _ _ e]

structure D0 (w wr : World) (n : Nat) (f : Nat → Int) : Prop where
  below : Below w.heap.size w wr
  size : wr.heap.size = w.heap.size + 1
  dist : wr.heap[w.heap.size]? = some (.cells (zrow n f) 3 (0, 0))
structure DM (w wr : World) (n : Nat) (f : Nat → Int) (qv : Value) (Q : List Nat) : Prop where
  below : Below w.heap.size w wr
  size : w.heap.size + 1 ≤ wr.heap.size
  dist : wr.heap[w.heap.size]? = some (.cells (zrow n f) 3 (0, 0))
  que : wr.ownsRow (w.heap.size + 1) 3 1 qv Q.length (ints Q)

section
variable {w wr : World} {n : Nat} {f : Nat → Int} {qv : Value} {Q : List Nat}

theorem D0.set (h : D0 w wr n f) (i : Nat) (b : Int) : D0 w (wr.setCell ⟨w.heap.size, i, none⟩ (.int .i64 b)) n (updZ f i b) := by
  refine ⟨h.below.setCell (by simp) _, by simp [World.setCell, h.size], ?_⟩
  have := heap_setCell_same (i := i) h.dist (.int .i64 b)
  rw [zrow_set] at this
  exact this
theorem D0.cell (h : D0 w wr n f) {i : Nat} (hi : i < n) : wr.cell? ⟨w.heap.size, i, none⟩ = some (.int .i64 (f i)) := cell_blk h.dist (zrow_get hi)
theorem D0.free (h : D0 w wr n f) (i : Nat) : wr.frozen? ⟨w.heap.size, i, none⟩ = false := free_blk h.dist
theorem d0_start (w : World) (n : Nat) : D0 w (w.alloc (.cells (zrow n fun _ => 0) 3)) n (fun _ => 0) := ⟨(Below.refl _ _).alloc (Nat.le_refl _) _, sz_alloc _ _, heap_alloc_new _ _⟩
theorem D0.dm (h : D0 w wr n f) (m : Nat) (hm : m ≤ 65536) : DM w (wr.alloc (.cells (madeCells #[.int .i64 0] m) 3)) n f (.slice (some ⟨wr.heap.size, 0, none⟩) 0 m) [] := by
  have hs := h.size
  have ho := World.ownsRow_made (e := 3) (base := w.heap.size + 1) (size := 1) wr (madeCells #[.int .i64 0] m) m (by omega) (by unfold maxLen; omega) (by rw [size_madeCells]; omega)
  exact ⟨h.below.alloc (by omega) _, by rw [sz_alloc]; omega, (Below.heap_alloc _ _ _ (by omega)).trans h.dist, ho⟩
theorem DM.al (h : DM w wr n f qv Q) (ob : Obj) : DM w (wr.alloc ob) n f qv Q := by
  have hs := h.size
  exact ⟨h.below.alloc (by omega) _, by rw [sz_alloc]; omega, (Below.heap_alloc _ _ _ (by omega)).trans h.dist, h.que.alloc _⟩
theorem DM.drewN (h : DM w wr n f qv Q) (m : Nat) : DM w (wr.drewN m) n f qv Q := ⟨h.below.trans ⟨rfl, rfl, rfl, Nat.le_refl _, fun _ _ => rfl⟩, h.size, h.dist, h.que⟩
theorem DM.set (h : DM w wr n f qv Q) (i : Nat) (b : Int) : DM w (wr.setCell ⟨w.heap.size, i, none⟩ (.int .i64 b)) n (updZ f i b) qv Q := by
  refine ⟨h.below.setCell (by simp) _, by simpa [World.setCell] using h.size, ?_, ?_⟩
  · have := heap_setCell_same (i := i) h.dist (.int .i64 b)
    rw [zrow_set] at this
    exact this
  · exact owns_block h.que fun g hg hlt => Below.heap_setCell _ _ _ _ (by have := (h.que.lt g hg).1; show g ≠ w.heap.size; omega)
theorem DM.congr (h : DM w wr n f qv Q) {f' : Nat → Int} (hf : ∀ i, i < n → f i = f' i) : DM w wr n f' qv Q := ⟨h.below, h.size, by rw [← zrow_congr hf]; exact h.dist, h.que⟩
theorem DM.app (h : DM w wr n f qv Q) {w' : World} {qv' : Value} {b : Nat} (hg : wr.grownBy w' qv.ownBlock) (ho : w'.ownsRow (w.heap.size + 1) 3 1 qv' (Q.length + 1) (ints Q ++ [.int .i64 (b : Int)])) : DM w w' n f qv' (Q ++ [b]) := by
  have hs := h.size
  refine ⟨h.below.grown hg (by omega) (fun k hk => by have := (h.que.lt k hk).1; omega), Nat.le_trans hs hg.size, (hg.block _ (by omega) (fun e => by have := (h.que.lt _ e.symm).1; omega)).trans h.dist, ?_⟩
  rw [List.length_append, ← ints_snoc]
  exact ho
theorem DM.cell (h : DM w wr n f qv Q) {i : Nat} (hi : i < n) : wr.cell? ⟨w.heap.size, i, none⟩ = some (.int .i64 (f i)) := cell_blk h.dist (zrow_get hi)
theorem DM.free (h : DM w wr n f qv Q) (i : Nat) : wr.frozen? ⟨w.heap.size, i, none⟩ = false := free_blk h.dist
theorem DM.head (h : DM w wr n f qv Q) {i a : Nat} (hi : Q[i]? = some a) : ∃ g cap, qv = .slice (some ⟨g, 0, none⟩) Q.length cap ∧ wr.cell? ⟨g, i, none⟩ = some (.int .i64 (a : Int)) := by
  have hlt : i < Q.length := (List.getElem?_eq_some_iff.1 hi).1
  have hc := h.que
  rcases hc.2 with ⟨_, h'⟩ | ⟨g, cap, cur, hv, _⟩
  · omega
  · rw [hv] at hc
    refine ⟨g, cap, hv, ?_⟩
    rw [hc.cellAt _ (by omega)]
    simp [ints, hi]
theorem DM.form (h : DM w wr n f qv Q) : ∃ p cap, qv = .slice p Q.length cap := by
  rcases h.que.2 with ⟨h1, h2⟩ | ⟨g, cap, cur, hv, _⟩
  · exact ⟨none, 0, by rw [h1, h2]⟩
  · exact ⟨_, _, hv⟩
end

theorem drop_cons {Q : List Nat} {h a : Nat} (ha : Q[h]? = some a) : Q.drop h = a :: Q.drop (h + 1) := by
  obtain ⟨hlt, e⟩ := List.getElem?_eq_some_iff.1 ha
  rw [List.drop_eq_getElem_cons hlt, e]

theorem run_make0 (n : Nat) (hn : n ≤ 65536) (w : World) :
    (Instr.makeSlice 25 (.int .i64 0) (.int .i64 (n : Int))).run Try.prog w = .ok (.slice (some ⟨w.heap.size, 0, none⟩) 0 n) (w.alloc (.cells (madeCells #[.int .i64 0] n) 3)) := by
  obtain ⟨i, hi, hzz⟩ := Option.map_eq_some_iff.1 Try.info3
  simp only [Prod.mk.injEq] at hzz
  obtain ⟨hz, hs, hb⟩ := hzz
  have hb' : (i.bytes : Int) * (n : Int) ≤ 281474976710656 := by
    rw [hb]
    omega
  have hr := run_make (P := Try.prog) w 25 3 i _ Try.underlying25 hi hz .i64 .i64 0 n (Int.le_refl _) (by omega) hb' (by omega)
  simpa [hs, Value.cells] using hr

/-- hasEdge. -/
theorem edge16 (w : World) (D n : Nat) (deps : Nat → List Nat) (hG : Graph w D n deps) (hn : n ≤ 65536) (x y : Nat) (hx : x < n) (hy : y ∈ deps x) (m : Nat) :
    Calls Try.prog 16 #[.slice (some ⟨D, 0, none⟩) n n, .int .i64 (x : Int), .int .i64 (y : Int)] (w.drewN m) fun r w' => r = .returned (.bool true) ∧ w' = w.drewN m := by
  obtain ⟨r, c, hr, hrk⟩ := hG.row x hx
  have hlen := hG.len x hx
  obtain ⟨dl, hdl⟩ : ∃ dl, dl = (deps x).length := ⟨_, rfl⟩
  rw [← hdl] at hr hlen
  have HDL : Hid _ := hdl
  have HRK : Hid _ := hrk
  have HY : Hid _ := hy
  have hx0 : (0 : Int) ≤ (x : Int) := by omega
  have hx1 : (x : Int) < (n : Int) := by omega
  clear hG hdl hrk hy
  go_enter Try.func16, Try.ntmps16
  go_wp2_with fail
  go_loopg [8] dl (fun gk s8 wr => ∃ k : Nat, s8 = .int .i64 (k : Int) ∧ k ≤ dl ∧ dl - k ≤ gk ∧ wr = w.drewN m ∧ Hid (y ∉ (deps x).take k))
  case atStart => exact ⟨0, rfl, Nat.zero_le _, by omega, rfl, by show y ∉ _; simp⟩
  case round =>
    obtain ⟨k, rfl, hk, hgk, rfl, HI⟩ := hrel
    by_cases hkl : k < dl
    · obtain ⟨b, hb⟩ : ∃ b, (deps x)[k]? = some b := ⟨_, List.getElem?_eq_getElem (by rw [← HDL.out]; exact hkl)⟩
      obtain ⟨R, rfl, hcb⟩ := HRK.out k b hb
      have HB : Hid _ := hb
      clear hb
      by_cases e : b = y
      · subst e
        go_wp2_with fail
        go_ret
        exact ⟨rfl, rfl⟩
      · have ei : (b : Int) ≠ (y : Int) := by omega
        go_wp2_with fail
        go_roundg (dl - (k + 1))
        case measure => omega
        case rel => exact ⟨k + 1, by go_num, by omega, Nat.le_refl _, rfl, fun hm => by
          rcases take_bump HB.out hm with hm | hm
          · exact HI.out hm
          · exact e hm.symm⟩
    · exact absurd HY.out (by have := HI.out; rwa [List.take_of_length_le (by rw [← HDL.out]; omega)] at this)
end Go.Proofs.Qxb6600314a
