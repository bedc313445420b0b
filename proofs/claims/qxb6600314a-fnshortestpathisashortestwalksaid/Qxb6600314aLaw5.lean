/-
  THE LAW's WALK for seat b6600314a: FnShortestPathIsAShortestWalk (5).
-/
import Derived.Test.Qxb6600314aLaw6
import Derived.Test.Qxb6600314aDwalk
namespace Go.Proofs.Qxb6600314a
open Go.RowKit
set_option linter.unusedVariables false

theorem SP.bound {w w' w'' : World} {deps : Nat → List Nat} {st en g cap D n : Nat} {L : List Nat} (h : SP w w' deps st en g cap L) (hG : Graph w'' D n deps) (hst : st < n) : ∀ (j u : Nat), L[j]? = some u → u < n := by
  intro j
  induction j with
  | zero =>
    intro u hu
    rw [h.path.first] at hu
    cases hu
    exact hst
  | succ j ih =>
    intro u hu
    have hlt : j + 1 < L.length := (List.getElem?_eq_some_iff.1 hu).1
    obtain ⟨x, hx⟩ : ∃ x, L[j]? = some x := ⟨_, List.getElem?_eq_getElem (by omega)⟩
    exact hG.bnd x (ih x hx) u (h.path.chain j x u hx hu)

set_option maxRecDepth 100000 in
set_option maxHeartbeats 1000000 in
theorem law5 (w : World) (a : Option Addr) (len cap : Nat) (Z : Nat → List Int) (h : InG w a len Z) (x y : Int) :
    Calls Try.prog 5 #[.slice a len cap, .int .i64 x, .int .i64 y] w fun r w' => r = .returned (.bool true) ∧ Below w.heap.size w w' := by
  have A14 := bytes14 w a len cap Z h x y
  have A8 := big8 w a len cap Z h
  have H : Hid _ := h
  clear h
  go_enter Try.func5, Try.ntmps5
  go_upto_if 16 with (go_at_call 14; refine A14.mono ?_; rintro r w' ⟨⟨b, rfl⟩, hw'⟩; obtain rfl : w = w' := hw'.symm)
  clear A14
  cases b
  · go_wp2
    go_ret
    exact ⟨rfl, Below.refl _ _⟩
  go_upto_if 18 with (go_at_call 8; refine A8.mono ?_; rintro r w' ⟨⟨b, rfl, hb⟩, hw'⟩; obtain rfl : w = w' := hw'.symm; have HB : Hid _ := hb; clear hb)
  clear A8
  cases b
  case true =>
    go_wp2
    go_ret
    exact ⟨rfl, Below.refl _ _⟩
  obtain ⟨hn, hz⟩ := HB.out rfl
  have A9 := wf9 w a len cap Z H.out hn hz
  have HZ : Hid _ := hz
  clear HB hz
  go_upto_if 21 with (go_at_call 9; refine A9.mono ?_; rintro r w' ⟨⟨b, rfl, hb⟩, hw'⟩; obtain rfl : w = w' := hw'.symm; have HB : Hid _ := hb; clear hb)
  clear A9
  cases b
  · go_wp2
    go_ret
    exact ⟨rfl, Below.refl _ _⟩
  have hwf := HB.out rfl
  have HW : Hid _ := hwf
  clear hwf HB
  by_cases x0 : x < 0
  · go_wp2
    go_ret
    exact ⟨rfl, Below.refl _ _⟩
  by_cases x1 : x < (len : Int)
  case neg =>
    go_wp2
    go_ret
    exact ⟨rfl, Below.refl _ _⟩
  by_cases y0 : y < 0
  · go_wp2
    go_ret
    exact ⟨rfl, Below.refl _ _⟩
  by_cases y1 : y < (len : Int)
  case neg =>
    go_wp2
    go_ret
    exact ⟨rfl, Below.refl _ _⟩
  obtain ⟨p, rfl⟩ : ∃ p : Nat, x = p := ⟨x.toNat, by omega⟩
  obtain ⟨q, rfl⟩ : ∃ q : Nat, y = q := ⟨y.toNat, by omega⟩
  have hp : p < len := by omega
  have hq : q < len := by omega
  have A10 := clone10 w a len cap Z H.out (by omega) hn HZ.out HW.out
  go_upto_region 11 with (go_at_call 10; refine A10.mono ?_; rintro r w1 ⟨rfl, hb1, hg1⟩; have HB1 : Hid _ := hb1; have HG1 : Hid _ := hg1; clear hb1 hg1)
  clear A10
  have A11 := zzc11 w1 w.heap.size len (depsOf Z) HG1.out hn
  go_upto_region 12 with (go_at_call 11; refine A11.mono ?_; rintro r w2 ⟨comp, rfl, hcp⟩; have HCP : Hid _ := hcp; clear hcp)
  clear A11
  have HB2 : Hid (Below w.heap.size w w2) := HB1.out.trans (HCP.out.below.mono HB1.out.size)
  have HG2 : Hid (Graph w2 w.heap.size len (depsOf Z)) := HG1.out.below HCP.out.below
  have cp := cell_blk HCP.out.row (irow_get (f := comp) hp)
  have cq := cell_blk HCP.out.row (irow_get (f := comp) hq)
  obtain ⟨C, hC⟩ : ∃ C, C = w1.heap.size + 6 := ⟨_, rfl⟩
  have HR : Hid (w2.heap[C]? = some (.cells (irow len comp) 3 (0, 0))) := by show _ = _; rw [hC]; exact HCP.out.row
  have HC : Hid (Comps (depsOf Z) len comp) := HCP.out.comps
  rw [← hC] at cp cq ⊢
  clear hC HCP HG1 HB1
  have hp0 : (0 : Int) ≤ (p : Int) := by omega
  have hq0 : (0 : Int) ≤ (q : Int) := by omega
  by_cases e1 : comp p = comp q
  case neg =>
    have e1i : ((comp p : Nat) : Int) ≠ ((comp q : Nat) : Int) := by omega
    go_quiet (fail)
    obtain ⟨q1, rfl⟩ : ∃ q, q = nq := ⟨_, rfl⟩
    go_wp2
    go_ret
    exact ⟨rfl, HB2.out.os, HB2.out.tape, HB2.out.output, HB2.out.size, HB2.out.block⟩
  have E1 : Hid _ := e1
  rw [e1] at cp
  clear e1
  go_quiet (fail)
  obtain ⟨q1, rfl⟩ : ∃ q, q = nq := ⟨_, rfl⟩
  have HB3 : Hid (Below w.heap.size w (w2.drewN q1)) := ⟨HB2.out.os, HB2.out.tape, HB2.out.output, HB2.out.size, HB2.out.block⟩
  have HG3 : Hid (Graph (w2.drewN q1) w.heap.size len (depsOf Z)) := HG2.out.below ⟨rfl, rfl, rfl, Nat.le_refl _, fun _ _ => rfl⟩
  have HR3 : Hid ((w2.drewN q1).heap[C]? = some (.cells (irow len comp) 3 (0, 0))) := HR.out
  clear cp cq HB2 HG2 HR
  generalize w2.drewN q1 = w3 at HB3 HG3 HR3 ⊢
  have A1 := zzs15 w3 w.heap.size len C (depsOf Z) comp HG3.out hn HC.out HR3.out p q hp hq E1.out.symm
  go_upto_region 15 with (go_at_call 15; refine A1.mono ?_; rintro r w4 ⟨g1, cap1, L, rfl, hsp⟩; have HS : Hid _ := hsp; clear hsp)
  clear A1
  have HB4 : Hid (Below w.heap.size w w4) := HB3.out.trans (HS.out.below.mono HB3.out.size)
  have HG4 : Hid (Graph w4 w.heap.size len (depsOf Z)) := HG3.out.below HS.out.below
  have t1 := HS.out.path.pos
  have t2 := HS.out.path.bnd
  have c0 := HS.out.row.cellAt 0 (by omega)
  have c1 := HS.out.row.cellAt (L.length - 1) (by omega)
  rw [ints_get HS.out.path.first] at c0
  rw [ints_get HS.out.path.last] at c1
  have HCe : Hid (∀ j v : Nat, L[j]? = some v → w4.cell? ⟨g1, j, none⟩ = some (.int .i64 (v : Int))) := fun j v hj => by
    have := HS.out.row.cellAt j (by have := (List.getElem?_eq_some_iff.1 hj).1; omega)
    rw [ints_get hj] at this
    exact this
  obtain ⟨l, hl⟩ : ∃ l, l + 1 = L.length := ⟨L.length - 1, by omega⟩
  rw [show L.length - 1 = l from by omega] at c1
  rw [← hl] at t1 t2 ⊢
  have HL : Hid _ := hl
  clear hl HB3 HG3 HR3 HC
  go_wp2_with fail
  clear c0 c1
  go_loopg [10] l (fun gk s10 wr => ∃ k m : Nat, s10 = .int .i64 (k : Int) ∧ k ≤ l ∧ l - k ≤ gk ∧ wr = w4.drewN m)
  case atStart => exact ⟨0, 0, rfl, Nat.zero_le _, by omega, rfl⟩
  case round =>
    obtain ⟨k, m, rfl, hk, hgk, rfl⟩ := hrel
    by_cases hkl : k < l
    · obtain ⟨u, hu⟩ : ∃ u, L[k]? = some u := ⟨_, List.getElem?_eq_getElem (by rw [← HL.out]; omega)⟩
      obtain ⟨v, hv⟩ : ∃ v, L[k + 1]? = some v := ⟨_, List.getElem?_eq_getElem (by rw [← HL.out]; omega)⟩
      have cu := HCe.out k u hu
      have cv := HCe.out (k + 1) v hv
      have huv := HS.out.path.chain k u v hu hv
      have hul : u < len := by
        by_cases e : u < len
        · exact e
        · exfalso
          exact e (HS.out.bound HG4.out hp k u hu)
      have A16 : ∀ n x, Calls Try.prog 16 #[.slice (some ⟨w.heap.size, 0, none⟩) len len, .int .i64 (u : Int), .int .i64 (v : Int)] (w4.drewN (n + x)) fun r w' => r = .returned (.bool true) ∧ ∃ m, w' = w4.drewN (n + m) := fun n x => by
        refine (edge16 w4 w.heap.size len (depsOf Z) HG4.out hn u v hul huv (n + x)).mono ?_
        rintro r w' ⟨h1, h2⟩
        exact ⟨h1, x, h2⟩
      clear hu hv huv
      go_upto_region 20 with fail
      go_quiet ((go_at_call 16; exact A16 _ _))
      go_wp2_with fail
      go_roundg (l - (k + 1))
      case measure => omega
      case rel => exact ⟨k + 1, _, by go_num, by omega, Nat.le_refl _, rfl⟩
    · obtain rfl : l = k := by omega
      have HB5 : Hid (Below w4.heap.size w4 (w4.drewN m)) := ⟨rfl, rfl, rfl, Nat.le_refl _, fun _ _ => rfl⟩
      have A17 := dist17 (w4.drewN m) w.heap.size len (depsOf Z) (HG4.out.below HB5.out) hn q hq
      have HBW : Hid (∀ w5, Below (w4.drewN m).heap.size (w4.drewN m) w5 → Below w.heap.size w w5) := fun w5 hb => (HB4.out.trans (HB5.out.mono HB4.out.size)).trans (hb.mono HB4.out.size)
      have HDi : Hid (IsDist (depsOf Z) p q l) := by
        have := HS.out.path.dist
        rw [← HL.out] at this
        exact this
      go_upto_region 23 with (go_at_call 17; refine A17.mono ?_; rintro r w5 ⟨g5, rfl, hdp⟩; have HDP : Hid _ := hdp; clear hdp)
      clear A17
      have cd := HDP.out.dist p l hp HDi.out
      have HFin : Hid _ := HBW.out w5 HDP.out.below
      go_wp2_with fail
      go_ret
      exact ⟨rfl, HFin.out⟩
end Go.Proofs.Qxb6600314a
