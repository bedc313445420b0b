/-
  WALK for seat b6600314a: cloneGraph (10).
-/
import Derived.Test.Qxb6600314aInput
import Derived.Laws.Cover3
namespace Go.Proofs.Qxb6600314a
open Go.RowKit
set_option linter.unusedVariables false

theorem Try.info25 : (Try.prog.info? 25).map (fun i => (i.zero, i.size, i.bytes)) = some (some (.slice none 0 0), 1, 24) := by kernel_rfl
def depsOf (Z : Nat → List Int) (i : Nat) : List Nat := (Z i).map Int.toNat

structure CO (w wr : World) (len k : Nat) (Z : Nat → List Int) : Prop where
  below : Below w.heap.size w wr
  row : ∃ cur, wr.heap[w.heap.size]? = some (.cells cur 25 (0, 0)) ∧ cur.size = len ∧ (∀ i, i < len → k ≤ i → cur[i]? = some (.slice none 0 0)) ∧
    ∀ i, i < k → ∃ r c, cur[i]? = some (.slice r (Z i).length c) ∧ ∀ (q : Nat) (z : Int), (Z i)[q]? = some z → ∃ R, r = some ⟨R, 0, none⟩ ∧ w.heap.size < R ∧ wr.cell? ⟨R, q, none⟩ = some (.int .i64 z)

section
variable {w wr w2 : World} {len k : Nat} {Z : Nat → List Int}

theorem madeCells_get (z : Value) {n i : Nat} (h : i < n) : (madeCells #[z] n)[i]? = some z := by
  have := congrArg (fun l => l[i]?) (toList_madeCells_one z n)
  simp only [Array.getElem?_toList] at this
  rw [this]
  simp [h]
theorem madeCells_size (z : Value) (n : Nat) : (madeCells #[z] n).size = n := by
  have := congrArg List.length (toList_madeCells_one z n)
  simpa using this

theorem co_start (w : World) (len : Nat) (Z : Nat → List Int) : CO w (w.alloc (.cells (madeCells #[.slice none 0 0] len) 25)) len 0 Z :=
  ⟨(Below.refl _ _).alloc (Nat.le_refl _) _, _, heap_alloc_new _ _, madeCells_size _ _, fun i hi _ => madeCells_get _ hi, fun i hi => by omega⟩

theorem CO.skip (h : CO w wr len k Z) (hk : k < len) (hz : (Z k).length = 0) : CO w wr len (k + 1) Z := by
  obtain ⟨cur, h1, h2, h3, h4⟩ := h.row
  refine ⟨h.below, cur, h1, h2, fun i hi hi2 => h3 i hi (by omega), fun i hi => ?_⟩
  by_cases e : i = k
  · subst e
    refine ⟨none, 0, by rw [hz]; exact h3 i hk (Nat.le_refl _), fun q z hq => ?_⟩
    have := (List.getElem?_eq_some_iff.1 hq).1
    omega
  · exact h4 i (by omega)

theorem CO.size (h : CO w wr len k Z) : w.heap.size < wr.heap.size := by
  obtain ⟨cur, h1, _⟩ := h.row
  exact (Array.getElem?_eq_some_iff.1 h1).1

theorem CO.spot (h : CO w wr len k Z) (hk : k < len) (hb : Below wr.heap.size wr w2) : w2.cell? ⟨w.heap.size, k, none⟩ = some (.slice none 0 0) ∧ w2.frozen? ⟨w.heap.size, k, none⟩ = false := by
  obtain ⟨cur, h1, h2, h3, h4⟩ := h.row
  have e := (hb.block _ h.size).trans h1
  exact ⟨cell_blk e (h3 k hk (Nat.le_refl _)), free_blk e⟩

theorem CO.step (h : CO w wr len k Z) (hk : k < len) (hb : Below wr.heap.size wr w2) (hc : ∀ (q : Nat) (z : Int), (Z k)[q]? = some z → w2.cell? ⟨wr.heap.size, q, none⟩ = some (.int .i64 z)) :
    CO w (w2.setCell ⟨w.heap.size, k, none⟩ (.slice (some ⟨wr.heap.size, 0, none⟩) (Z k).length (Z k).length)) len (k + 1) Z := by
  obtain ⟨cur, h1, h2, h3, h4⟩ := h.row
  have hsz := h.size
  have e := (hb.block _ hsz).trans h1
  have keep : ∀ R q v, w.heap.size < R → w2.cell? ⟨R, q, none⟩ = some v → (w2.setCell ⟨w.heap.size, k, none⟩ (.slice (some ⟨wr.heap.size, 0, none⟩) (Z k).length (Z k).length)).cell? ⟨R, q, none⟩ = some v := fun R q v hR hv =>
    (World.cell?_of_block (a := ⟨R, q, none⟩) (Below.heap_setCell _ _ _ R (by show R ≠ w.heap.size; omega))).trans hv
  refine ⟨(h.below.trans ⟨hb.os, hb.tape, hb.output, hb.size, fun q hq => hb.block q (by omega)⟩).setCell (by simp) _, _, heap_setCell_same e _, by simpa using h2, fun i hi hi2 => ?_, fun i hi => ?_⟩
  · rw [Array.getElem?_setIfInBounds_ne (by omega)]
    exact h3 i hi (by omega)
  · by_cases e2 : i = k
    · subst e2
      refine ⟨_, _, by rw [Array.getElem?_setIfInBounds_self_of_lt (by omega)], fun q z hq => ⟨_, rfl, hsz, keep _ _ _ hsz (hc q z hq)⟩⟩
    · obtain ⟨r, c, h5, h6⟩ := h4 i (by omega)
      refine ⟨r, c, by rw [Array.getElem?_setIfInBounds_ne (by omega)]; exact h5, fun q z hq => ?_⟩
      obtain ⟨R, hR, hR2, hR3⟩ := h6 q z hq
      exact ⟨R, hR, hR2, keep _ _ _ hR2 ((hb.cell (p := ⟨R, q, none⟩) (World.block_lt_of_cell? _ _ hR3)).trans hR3)⟩

theorem CO.graph (h : CO w wr len len Z) (hz : ∀ i, i < len → (Z i).length ≤ 1048576) (hwf : ∀ i, i < len → ∀ z ∈ Z i, 0 ≤ z ∧ z < (len : Int)) : Graph wr w.heap.size len (depsOf Z) := by
  obtain ⟨cur, h1, h2, h3, h4⟩ := h.row
  refine ⟨fun i hi => ?_, fun i hi => by simpa [depsOf] using hz i hi, fun i hi v hv => ?_⟩
  · obtain ⟨r, c, h5, h6⟩ := h4 i hi
    refine ⟨r, c, by rw [depsOf, List.length_map]; exact cell_blk h1 h5, fun q v hq => ?_⟩
    rw [depsOf, List.getElem?_map] at hq
    obtain ⟨z, hz1, hz2⟩ := Option.map_eq_some_iff.1 hq
    obtain ⟨R, hR, _, hR3⟩ := h6 q z hz1
    have := hwf i hi z (List.mem_of_getElem? hz1)
    refine ⟨R, hR, ?_⟩
    rw [hR3, ← hz2, show ((z.toNat : Nat) : Int) = z from by omega]
  · obtain ⟨z, hz1, rfl⟩ := List.mem_map.1 hv
    have := hwf i hi z hz1
    omega
end

theorem eql_slice_nil {P : Program} (w : World) (t e : TypeId) (h : P.underlying t = some (.slice e)) (a : Option Addr) (l c : Nat) : (binOp .eql t (.slice a l c) (.slice none 0 0)).run P w = .ok (.bool a.isNone) w := by
  simp only [binOp]
  simp [run_equal_slice_nil w t e a l c h]

/-- The new row while it is filled. -/
structure RF (w wr : World) (L j : Nat) (zs : List Int) : Prop where
  below : Below w.heap.size w wr
  row : ∃ cur, wr.heap[w.heap.size]? = some (.cells cur 3 (0, 0)) ∧ cur.size = L ∧ ∀ (q : Nat) (z : Int), q < j → zs[q]? = some z → cur[q]? = some (.int .i64 z)
theorem rf_start (w : World) (L : Nat) (zs : List Int) : RF w (w.alloc (.cells (madeCells #[.int .i64 0] L) 3)) L 0 zs :=
  ⟨(Below.refl _ _).alloc (Nat.le_refl _) _, _, heap_alloc_new _ _, madeCells_size _ _, fun q z hq => by omega⟩
theorem RF.spot {w wr : World} {L j : Nat} {zs : List Int} (h : RF w wr L j zs) (hj : j < L) : (∃ v, wr.cell? ⟨w.heap.size, j, none⟩ = some v) ∧ wr.frozen? ⟨w.heap.size, j, none⟩ = false := by
  obtain ⟨cur, h1, h2, h3⟩ := h.row
  exact ⟨⟨_, cell_blk h1 (Array.getElem?_eq_getElem (by omega))⟩, free_blk h1⟩
theorem RF.step {w wr : World} {L j : Nat} {zs : List Int} (h : RF w wr L j zs) (hj : j < L) {z : Int} (hz : zs[j]? = some z) : RF w (wr.setCell ⟨w.heap.size, j, none⟩ (.int .i64 z)) L (j + 1) zs := by
  obtain ⟨cur, h1, h2, h3⟩ := h.row
  refine ⟨h.below.setCell (by simp) _, _, heap_setCell_same h1 _, by simpa using h2, fun q y hq hy => ?_⟩
  by_cases e : q = j
  · subst e
    rw [hz] at hy
    cases hy
    rw [Array.getElem?_setIfInBounds_self_of_lt (by omega)]
  · rw [Array.getElem?_setIfInBounds_ne (by omega)]
    exact h3 q y (by omega) hy

set_option maxHeartbeats 800000 in
theorem clone10 (w : World) (a : Option Addr) (len cap : Nat) (Z : Nat → List Int) (h : InG w a len Z) (h0 : 0 < len) (hn : len ≤ 65536) (hz : ∀ i, i < len → (Z i).length ≤ 1048576) (hwf : ∀ i, i < len → ∀ z ∈ Z i, 0 ≤ z ∧ z < (len : Int)) :
    Calls Try.prog 10 #[.slice a len cap] w fun r w' => r = .returned (.slice (some ⟨w.heap.size, 0, none⟩) len len) ∧ Below w.heap.size w w' ∧ Graph w' w.heap.size len (depsOf Z) := by
  have mk := run_make_row' (P := Try.prog) 22 25 (.slice none 0 0) 24 Try.underlying22 Try.info25 rfl .i64 .i64 len (by omega) (by omega)
  obtain ⟨b, off, rfl, -⟩ := h.row 0 h0
  have H : Hid _ := h
  have HZ : Hid _ := hz
  have HW : Hid _ := hwf
  clear h hz hwf
  have e22 := fun W => eql_slice_nil (P := Try.prog) W 22 25 Try.underlying22
  have e25 := fun W => eql_slice_nil (P := Try.prog) W 25 3 Try.underlying25
  go_enter Try.func10, Try.ntmps10
  go_wp2_with fail
  have HC : Hid _ := co_start w len Z
  go_loopg [4] len (fun gk s4 wr => ∃ k : Nat, k ≤ len ∧ len - k ≤ gk ∧ s4 = .int .i64 (k : Int) ∧ Hid (CO w wr len k Z))
  case atStart => exact ⟨0, Nat.zero_le _, by omega, rfl, HC.out⟩
  case round =>
    obtain ⟨k, hk, hgk, rfl, HI⟩ := hrel
    clear HC mk
    by_cases hlt : k < len
    · obtain ⟨b', off', e0, r, c, hr, hrn, hrk⟩ := H.out.row k hlt
      obtain ⟨rfl, rfl⟩ : b = b' ∧ off = off' := by injection e0 with e0; injection e0 with e1 e2; exact ⟨e1, e2⟩
      have hbl := World.block_lt_of_cell? _ _ hr
      have hr2 := (HI.out.below.cell (p := ⟨b, off + k, none⟩) hbl).trans hr
      have hmax := HZ.out k hlt
      obtain ⟨L, hL⟩ : ∃ L, L = (Z k).length := ⟨_, rfl⟩
      rw [← hL] at hr2 hmax hrn
      have HL : Hid _ := hL
      have HR : Hid _ := hrk
      clear hL hrk hr e0
      rcases r with _ | ad
      · obtain ⟨rfl, rfl⟩ := hrn rfl
        clear hrn
        go_wp2_with fail
        go_roundg (len - (k + 1))
        case measure => omega
        case rel => exact ⟨k + 1, by omega, Nat.le_refl _, by go_num, HI.out.skip hlt HL.out.symm⟩
      · clear hrn
        have mk := run_make_row' (P := Try.prog) 25 3 (.int .i64 0) 8 Try.underlying25 Try.info3 rfl .i64 .i64 L (by omega) (by omega)
        go_wp2_with fail
        have HF : Hid _ := rf_start wr L (Z k)
        obtain ⟨W0, rfl⟩ : ∃ W0, W0 = wr := ⟨_, rfl⟩
        clear mk hr2
        go_loopg [7] L (fun gk s7 wr => ∃ j : Nat, j ≤ L ∧ L - j ≤ gk ∧ s7 = .int .i64 (j : Int) ∧ Hid (RF W0 wr L j (Z k)))
        case atStart => exact ⟨0, Nat.zero_le _, by omega, rfl, HF.out⟩
        case round =>
          obtain ⟨j, hj, hgj, rfl, HJ⟩ := hrel
          clear HF
          by_cases hjl : j < L
          · obtain ⟨z, hz⟩ : ∃ z, (Z k)[j]? = some z := ⟨_, List.getElem?_eq_getElem (by rw [← HL.out]; exact hjl)⟩
            obtain ⟨R, o, hR, hc⟩ := HR.out j z hz
            obtain rfl : ad = ⟨R, o, none⟩ := Option.some.inj hR
            have hRl := World.block_lt_of_cell? _ _ hc
            have hws := HI.out.below.size
            have hc2 := ((HI.out.below.trans (HJ.out.below.mono hws)).cell (p := ⟨R, o + j, none⟩) hRl).trans hc
            obtain ⟨⟨v, hv⟩, hfz⟩ := HJ.out.spot hjl
            have HS : Hid _ := HJ.out.step hjl hz
            clear hz hR hc
            go_wp2_with fail
            go_roundg (L - (j + 1))
            case measure => omega
            case rel => exact ⟨j + 1, by omega, Nat.le_refl _, by go_num, HS.out⟩
          · obtain rfl : j = L := by omega
            obtain ⟨hv, hfz⟩ := HI.out.spot hlt HJ.out.below
            have HS : Hid _ := HI.out.step hlt HJ.out.below (fun q z hq => by
              obtain ⟨cur, k1, k2, k3⟩ := HJ.out.row
              exact cell_blk k1 (k3 q z (by rw [HL.out]; exact (List.getElem?_eq_some_iff.1 hq).1) hq))
            have hs := HS.out
            rw [← HL.out] at hs
            have HS2 : Hid _ := hs
            clear hs
            go_wp2_with fail
            go_roundg (len - (k + 1))
            case measure => omega
            case rel => exact ⟨k + 1, by omega, Nat.le_refl _, by go_num, HS2.out⟩
    · obtain rfl : k = len := by omega
      go_wp2_with fail
      go_ret
      exact ⟨rfl, HI.out.below, HI.out.graph HZ.out HW.out⟩
end Go.Proofs.Qxb6600314a
