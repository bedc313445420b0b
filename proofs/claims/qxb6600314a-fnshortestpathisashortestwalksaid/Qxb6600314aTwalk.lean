/-
  WALK for seat b6600314a: transpose (20).
-/
import Derived.Test.Qxb6600314aTrans
import Derived.Test.Qxb6600314aComps
namespace Go.Proofs.Qxb6600314a
open Go.RowKit
set_option linter.unusedVariables false

structure T1 (w wr : World) (n : Nat) (S : Nat → Nat) : Prop where
  below : Below w.heap.size w wr
  size : wr.heap.size = w.heap.size + 1
  row : wr.heap[w.heap.size]? = some (.cells (irow (n + 1) S) 3 (0, 0))
structure T2 (w wr : World) (n E : Nat) (S I F : Nat → Nat) : Prop where
  below : Below w.heap.size w wr
  size : wr.heap.size = w.heap.size + 3
  row : wr.heap[w.heap.size]? = some (.cells (irow (n + 1) S) 3 (0, 0))
  inn : wr.heap[w.heap.size + 1]? = some (.cells (irow E I) 3 (0, 0))
  fil : wr.heap[w.heap.size + 2]? = some (.cells (irow n F) 3 (0, 0))

section
variable {w wr : World} {n E : Nat} {S I F : Nat → Nat}

theorem T1.set (h : T1 w wr n S) (i b : Nat) : T1 w (wr.setCell ⟨w.heap.size, i, none⟩ (.int .i64 (b : Int))) n (upd S i b) := by
  refine ⟨h.below.setCell (by simp) _, by simp [World.setCell, h.size], ?_⟩
  have := heap_setCell_same (i := i) h.row (.int .i64 (b : Int))
  rw [irow_set] at this
  exact this
theorem T1.drewN (h : T1 w wr n S) (m : Nat) : T1 w (wr.drewN m) n S := ⟨h.below.trans ⟨rfl, rfl, rfl, Nat.le_refl _, fun _ _ => rfl⟩, h.size, h.row⟩
theorem T1.cell (h : T1 w wr n S) {i : Nat} (hi : i ≤ n) : wr.cell? ⟨w.heap.size, i, none⟩ = some (.int .i64 (S i : Int)) := cell_blk h.row (irow_get (by omega))
theorem T1.free (h : T1 w wr n S) (i : Nat) : wr.frozen? ⟨w.heap.size, i, none⟩ = false := free_blk h.row
theorem t1_start (w : World) (n : Nat) : T1 w (w.alloc (.cells (irow (n + 1) fun _ => 0) 3)) n (fun _ => 0) := ⟨(Below.refl _ _).alloc (Nat.le_refl _) _, sz_alloc _ _, heap_alloc_new _ _⟩
theorem T1.two (h : T1 w wr n S) (E : Nat) : T2 w ((wr.alloc (.cells (irow E fun _ => 0) 3)).alloc (.cells (irow n fun _ => 0) 3)) n E S (fun _ => 0) (fun _ => 0) := by
  have hs := h.size
  refine ⟨(h.below.alloc (by omega) _).alloc (by rw [sz_alloc]; omega) _, by rw [sz_alloc, sz_alloc]; omega, ?_, ?_, ?_⟩
  · rw [Below.heap_alloc _ _ _ (by rw [sz_alloc]; omega), Below.heap_alloc _ _ _ (by omega)]
    exact h.row
  · rw [Below.heap_alloc _ _ _ (by rw [sz_alloc]; omega), ← hs]
    exact heap_alloc_new _ _
  · have e : w.heap.size + 2 = (wr.alloc (.cells (irow E fun _ => 0) 3)).heap.size := by rw [sz_alloc]; omega
    rw [e]
    exact heap_alloc_new _ _
theorem T2.setF (h : T2 w wr n E S I F) (i b : Nat) : T2 w (wr.setCell ⟨w.heap.size + 2, i, none⟩ (.int .i64 (b : Int))) n E S I (upd F i b) := by
  have hb : ∀ k, k ≠ w.heap.size + 2 → (wr.setCell ⟨w.heap.size + 2, i, none⟩ (.int .i64 (b : Int))).heap[k]? = wr.heap[k]? := fun k hk => Below.heap_setCell _ _ _ _ hk
  refine ⟨h.below.setCell (by simp) _, by simp [World.setCell, h.size], (hb _ (by omega)).trans h.row, (hb _ (by omega)).trans h.inn, ?_⟩
  have := heap_setCell_same (i := i) h.fil (.int .i64 (b : Int))
  rw [irow_set] at this
  exact this
theorem T2.setI (h : T2 w wr n E S I F) (i b : Nat) : T2 w (wr.setCell ⟨w.heap.size + 1, i, none⟩ (.int .i64 (b : Int))) n E S (upd I i b) F := by
  have hb : ∀ k, k ≠ w.heap.size + 1 → (wr.setCell ⟨w.heap.size + 1, i, none⟩ (.int .i64 (b : Int))).heap[k]? = wr.heap[k]? := fun k hk => Below.heap_setCell _ _ _ _ hk
  refine ⟨h.below.setCell (by simp) _, by simp [World.setCell, h.size], (hb _ (by omega)).trans h.row, ?_, (hb _ (by omega)).trans h.fil⟩
  have := heap_setCell_same (i := i) h.inn (.int .i64 (b : Int))
  rw [irow_set] at this
  exact this
theorem T2.cS (h : T2 w wr n E S I F) {i : Nat} (hi : i ≤ n) : wr.cell? ⟨w.heap.size, i, none⟩ = some (.int .i64 (S i : Int)) := cell_blk h.row (irow_get (by omega))
theorem T2.cF (h : T2 w wr n E S I F) {i : Nat} (hi : i < n) : wr.cell? ⟨w.heap.size + 2, i, none⟩ = some (.int .i64 (F i : Int)) := cell_blk h.fil (irow_get hi)
theorem T2.cI (h : T2 w wr n E S I F) {i : Nat} (hi : i < E) : wr.cell? ⟨w.heap.size + 1, i, none⟩ = some (.int .i64 (I i : Int)) := cell_blk h.inn (irow_get hi)
theorem T2.fF (h : T2 w wr n E S I F) (i : Nat) : wr.frozen? ⟨w.heap.size + 2, i, none⟩ = false := free_blk h.fil
theorem T2.fI (h : T2 w wr n E S I F) (i : Nat) : wr.frozen? ⟨w.heap.size + 1, i, none⟩ = false := free_blk h.inn
end

/-- What transpose leaves. -/
structure TP (w w' : World) (n : Nat) (deps : Nat → List Nat) (S I : Nat → Nat) : Prop where
  below : Below w.heap.size w w'
  row : w'.heap[w.heap.size]? = some (.cells (irow (n + 1) S) 3 (0, 0))
  inn : w'.heap[w.heap.size + 1]? = some (.cells (irow (S n) I) 3 (0, 0))
  rev : RevOk deps n S I
  small : S n ≤ 68719476736

set_option maxRecDepth 100000 in
set_option maxHeartbeats 1000000 in
theorem trans20 (w : World) (D n : Nat) (deps : Nat → List Nat) (hG : Graph w D n deps) (hn : n ≤ 65536) :
    Calls Try.prog 20 #[.slice (some ⟨D, 0, none⟩) n n] w fun r w' => ∃ S I, r = .returned (.tuple #[.slice (some ⟨w.heap.size, 0, none⟩) (n + 1) (n + 1), .slice (some ⟨w.heap.size + 1, 0, none⟩) (S n) (S n)]) ∧ TP w w' n deps S I := by
  have hsm := sts_bound hG.bnd hG.len
  have HB : Hid _ := hsm
  have hE : sts deps n n ≤ 68719476736 := by omega
  have mk : ∀ W : World, (Instr.makeSlice 25 (.int .i64 ((n : Int) + 1)) (.int .i64 ((n : Int) + 1))).run Try.prog W = .ok (.slice (some ⟨W.heap.size, 0, none⟩) (n + 1) (n + 1)) (W.alloc (.cells (irow (n + 1) fun _ => 0) 3)) := by
    have := run_make_row' (P := Try.prog) 25 3 (.int .i64 0) 8 Try.underlying25 Try.info3 rfl .i64 .i64 (n + 1) (by omega) (by omega)
    rw [← irow0] at this
    exact this
  have HG : Hid _ := hG
  clear hG hsm
  go_enter Try.func20, Try.ntmps20
  go_wp2_with fail
  have HT : Hid _ := t1_start w n
  go_loopg [6] n (fun gk s6 wr => ∃ (v : Nat) (S : Nat → Nat), s6 = .int .i64 (v : Int) ∧ v ≤ n ∧ n - v ≤ gk ∧ Hid (T1 w wr n S ∧ S 0 = 0 ∧ ∀ i, i < n → S (i + 1) = cum deps v i))
  case atStart => exact ⟨0, _, rfl, Nat.zero_le _, by omega, HT.out, rfl, fun i hi => rfl⟩
  case round =>
    obtain ⟨v, S, rfl, hv, hgk, HI⟩ := hrel
    clear HT mk
    by_cases hlt : v < n
    · obtain ⟨r, c, hr, hrk⟩ := (HG.out.below HI.out.1.below).row v hlt
      have hlen := HG.out.len v hlt
      obtain ⟨dl, hdl⟩ : ∃ dl, dl = (deps v).length := ⟨_, rfl⟩
      rw [← hdl] at hr hlen
      have HDL : Hid _ := hdl
      have HRK : Hid (∀ i u : Nat, (deps v)[i]? = some u → ∃ R, r = some ⟨R, 0, none⟩ ∧ w.cell? ⟨R, i, none⟩ = some (.int .i64 (u : Int))) := by
        obtain ⟨r', c', e1, e2⟩ := HG.out.row v hlt
        have e3 := (HI.out.1.below.cell (p := ⟨D, v, none⟩) (World.block_lt_of_cell? _ _ e1)).trans e1
        rw [hr] at e3
        have e4 : r = r' := by injection e3 with e3; injection e3
        rw [e4]
        exact e2
      clear hdl hrk
      go_wp2_with fail
      clear hr
      obtain ⟨W0, rfl⟩ : ∃ W0, W0 = wr := ⟨_, rfl⟩
      go_loopg [8] dl (fun gk s8 wr => ∃ (k : Nat) (S : Nat → Nat), s8 = .int .i64 (k : Int) ∧ k ≤ dl ∧ dl - k ≤ gk ∧ Hid (T1 w wr n S ∧ S 0 = 0 ∧ ∀ i, i < n → S (i + 1) = cur deps v k i))
      case atStart => exact ⟨0, S, rfl, Nat.zero_le _, by omega, HI.out.1, HI.out.2.1, fun i hi => by rw [cur_zero]; exact HI.out.2.2 i hi⟩
      case round =>
        obtain ⟨k, S2, rfl, hk, hgk2, HI2⟩ := hrel
        clear HI
        by_cases hkl : k < dl
        · obtain ⟨b, hb⟩ : ∃ b, (deps v)[k]? = some b := ⟨_, List.getElem?_eq_getElem (by rw [← HDL.out]; exact hkl)⟩
          obtain ⟨R, rfl, hcb⟩ := HRK.out k b hb
          have hbn : b < n := HG.out.bnd v hlt b (List.mem_of_getElem? hb)
          have hcb2 := (HI2.out.1.below.cell (p := ⟨R, k, none⟩) (World.block_lt_of_cell? _ _ hcb)).trans hcb
          have cS := HI2.out.1.cell (i := b + 1) (by omega)
          have fS := HI2.out.1.free
          have hsb := HI2.out.2.2 b hbn
          have hcu := cur_lt hlt hb
          have hca := cum_le_all (deps := deps) b hbn
          obtain ⟨x, hx⟩ : ∃ x, x = S2 (b + 1) := ⟨_, rfl⟩
          obtain ⟨x', hx'⟩ : ∃ x', x' = x + 1 := ⟨_, rfl⟩
          have hxb : x ≤ 68719476736 := by omega
          rw [← hx] at cS
          have hxi : (x : Int) + 1 = (x' : Int) := by omega
          have hb0 : (0 : Int) ≤ (b : Int) := by omega
          have hb1 : (b : Int) < (n : Int) := by omega
          have HS : Hid (T1 w (wr.setCell ⟨w.heap.size, b + 1, none⟩ (.int .i64 (x' : Int))) n (upd S2 (b + 1) x')) := HI2.out.1.set (b + 1) x'
          have HX : Hid (x' = S2 (b + 1) + 1) := by show _ = _; omega
          have HBk : Hid _ := hb
          clear hx hx' hsb hcu hca hcb hb
          go_wp2_with fail
          go_roundg (dl - (k + 1))
          case measure => omega
          case rel => exact ⟨k + 1, _, by go_num, by omega, Nat.le_refl _, HS.out, by rw [upd_other _ _ (by omega)]; exact HI2.out.2.1, fun i hi => by
            rw [cur_step HBk.out]
            by_cases e : i = b
            · rw [e, upd_same, if_pos rfl, HX.out, HI2.out.2.2 b hbn]
            · rw [upd_other _ _ (by omega), if_neg e]
              exact HI2.out.2.2 i hi⟩
        · go_wp2_with fail
          go_roundg (n - (v + 1))
          case measure => omega
          case rel => exact ⟨v + 1, S2, by go_num, by omega, Nat.le_refl _, HI2.out.1, HI2.out.2.1, fun i hi => (HI2.out.2.2 i hi).trans (cur_full (by rw [← HDL.out]; omega) i)⟩
    · obtain rfl : n = v := by omega
      go_wp2_with fail
      obtain ⟨W1, rfl⟩ : ∃ W1, W1 = wr := ⟨_, rfl⟩
      go_loopg [9] n (fun gk s9 wr => ∃ (u : Nat) (S : Nat → Nat), s9 = .int .i64 (u : Int) ∧ u ≤ n ∧ n - u ≤ gk ∧ Hid (T1 w wr n S ∧ (∀ i, i ≤ u → S i = sts deps n i) ∧ ∀ i, u ≤ i → i < n → S (i + 1) = cum deps n i))
      case atStart => exact ⟨0, S, rfl, Nat.zero_le _, by omega, HI.out.1, fun i hi => by
        have : i = 0 := by omega
        subst this
        exact HI.out.2.1, fun i _ hi => HI.out.2.2 i hi⟩
      case round =>
        obtain ⟨u, S2, rfl, hu, hgk2, HI2⟩ := hrel
        clear HI
        by_cases hul : u < n
        · have c1 := HI2.out.1.cell (i := u + 1) (by omega)
          have c0 := HI2.out.1.cell (i := u) (by omega)
          have fS := HI2.out.1.free
          have e1 := HI2.out.2.2 u (Nat.le_refl _) hul
          have e0 := HI2.out.2.1 u (Nat.le_refl _)
          have b1 := cum_le_all (deps := deps) u hul
          have b0 := sts_le (deps := deps) u (Nat.le_of_lt hul)
          obtain ⟨x, hx⟩ : ∃ x, x = S2 (u + 1) := ⟨_, rfl⟩
          obtain ⟨y, hy⟩ : ∃ y, y = S2 u := ⟨_, rfl⟩
          obtain ⟨z, hz⟩ : ∃ z, z = x + y := ⟨_, rfl⟩
          rw [← hx] at c1
          rw [← hy] at c0
          have hxb : x ≤ 68719476736 := by omega
          have hyb : y ≤ 68719476736 := by omega
          have hzi : (x : Int) + (y : Int) = (z : Int) := by omega
          have HS : Hid (T1 w ((wr.setCell ⟨w.heap.size, u + 1, none⟩ (.int .i64 (z : Int))).drewN 1) n (upd S2 (u + 1) z)) := (HI2.out.1.set (u + 1) z).drewN 1
          have HZ : Hid (z = sts deps n (u + 1)) := by show _ = _; rw [sts_succ]; omega
          clear hx hy hz e1 e0 b1 b0
          go_upto_region 14 with fail
          go_region
          go_wp2_with fail
          go_roundg (n - (u + 1))
          case measure => omega
          case rel => exact ⟨u + 1, _, by go_num, by omega, Nat.le_refl _, HS.out, fun i hi => by
            by_cases e : i = u + 1
            · rw [e, upd_same]; exact HZ.out
            · rw [upd_other _ _ e]; exact HI2.out.2.1 i (by omega), fun i hi hi2 => by
            rw [upd_other _ _ (by omega)]; exact HI2.out.2.2 i (by omega) hi2⟩
        · obtain rfl : n = u := by omega
          have cn := HI2.out.1.cell (i := n) (Nat.le_refl _)
          have hsz := HI2.out.1.size
          obtain ⟨E, hE2⟩ : ∃ E, E = S2 n := ⟨_, rfl⟩
          rw [← hE2] at cn
          have hEb : E ≤ 68719476736 := by rw [hE2, HI2.out.2.1 n (Nat.le_refl _)]; exact hE
          have HE2 : Hid _ := hE2
          clear hE2
          have mkE := run_make_row' (P := Try.prog) 25 3 (.int .i64 0) 8 Try.underlying25 Try.info3 rfl .i64 .i64 E (by omega) (by omega)
          have mkn := run_make_row' (P := Try.prog) 25 3 (.int .i64 0) 8 Try.underlying25 Try.info3 rfl .i64 .i64 n (by omega) (by omega)
          rw [← irow0] at mkE mkn
          have HT : Hid _ := HI2.out.1.two E
          go_wp2_with fail
          clear mkE mkn cn
          rw [show w.heap.size + 1 + 1 = w.heap.size + 2 from rfl]
          have HSt : Hid (∀ i, i ≤ n → S2 i = sts deps n i) := HI2.out.2.1
          generalize ((wr.alloc (.cells (irow E fun _ => 0) 3)).alloc (.cells (irow n fun _ => 0) 3)) = W2 at HT ⊢
          clear HI2 hsz
          go_loopg [12] n (fun gk s12 wr => ∃ (u : Nat) (F : Nat → Nat), s12 = .int .i64 (u : Int) ∧ u ≤ n ∧ n - u ≤ gk ∧ Hid (T2 w wr n E S2 (fun _ => 0) F ∧ ∀ i, i < u → F i = S2 i))
          case atStart => exact ⟨0, _, rfl, Nat.zero_le _, by omega, HT.out, fun i hi => by omega⟩
          case round =>
            obtain ⟨u, F, rfl, hu, hgk3, HI3⟩ := hrel
            clear HT
            by_cases hul : u < n
            · have cS := HI3.out.1.cS (i := u) (by omega)
              have cF := HI3.out.1.cF (i := u) hul
              have fF := HI3.out.1.fF
              have HS : Hid _ := HI3.out.1.setF u (S2 u)
              go_wp2_with fail
              go_roundg (n - (u + 1))
              case measure => omega
              case rel => exact ⟨u + 1, _, by go_num, by omega, Nat.le_refl _, HS.out, fun i hi => by
                by_cases e : i = u
                · rw [e, upd_same]
                · rw [upd_other _ _ e]; exact HI3.out.2 i (by omega)⟩
            · obtain rfl : n = u := by omega
              go_wp2_with fail
              obtain ⟨W3, rfl⟩ : ∃ W3, W3 = wr := ⟨_, rfl⟩
              go_loopg [13] n (fun gk s13 wr => ∃ (v : Nat) (I F : Nat → Nat), s13 = .int .i64 (v : Int) ∧ v ≤ n ∧ n - v ≤ gk ∧ Hid (T2 w wr n E S2 I F ∧ FI deps n v 0 F I))
              case atStart => exact ⟨0, _, F, rfl, Nat.zero_le _, by omega, HI3.out.1, fi_start (fun i hi => (HI3.out.2 i hi).trans (HSt.out i (by omega))) _⟩
              case round =>
                obtain ⟨v, I4, F4, rfl, hv, hgk4, HI4⟩ := hrel
                clear HI3
                by_cases hlt : v < n
                · obtain ⟨r, c, hr, hrk⟩ := (HG.out.below HI4.out.1.below).row v hlt
                  have hlen := HG.out.len v hlt
                  obtain ⟨dl, hdl⟩ : ∃ dl, dl = (deps v).length := ⟨_, rfl⟩
                  rw [← hdl] at hr hlen
                  have HDL : Hid _ := hdl
                  have HRK : Hid (∀ i u : Nat, (deps v)[i]? = some u → ∃ R, r = some ⟨R, 0, none⟩ ∧ w.cell? ⟨R, i, none⟩ = some (.int .i64 (u : Int))) := by
                    obtain ⟨r', c', e1, e2⟩ := HG.out.row v hlt
                    have e3 := (HI4.out.1.below.cell (p := ⟨D, v, none⟩) (World.block_lt_of_cell? _ _ e1)).trans e1
                    rw [hr] at e3
                    have e4 : r = r' := by injection e3 with e3; injection e3
                    rw [e4]
                    exact e2
                  clear hdl hrk
                  go_wp2_with fail
                  clear hr
                  obtain ⟨W4, rfl⟩ : ∃ W4, W4 = wr := ⟨_, rfl⟩
                  go_loopg [15] dl (fun gk s15 wr => ∃ (k : Nat) (I F : Nat → Nat), s15 = .int .i64 (k : Int) ∧ k ≤ dl ∧ dl - k ≤ gk ∧ Hid (T2 w wr n E S2 I F ∧ FI deps n v k F I))
                  case atStart => exact ⟨0, I4, F4, rfl, Nat.zero_le _, by omega, HI4.out.1, HI4.out.2⟩
                  case round =>
                    obtain ⟨k, I5, F5, rfl, hk, hgk5, HI5⟩ := hrel
                    clear HI4
                    by_cases hkl : k < dl
                    · obtain ⟨b, hb⟩ : ∃ b, (deps v)[k]? = some b := ⟨_, List.getElem?_eq_getElem (by rw [← HDL.out]; exact hkl)⟩
                      obtain ⟨R, rfl, hcb⟩ := HRK.out k b hb
                      have hbn : b < n := HG.out.bnd v hlt b (List.mem_of_getElem? hb)
                      have hcb2 := (HI5.out.1.below.cell (p := ⟨R, k, none⟩) (World.block_lt_of_cell? _ _ hcb)).trans hcb
                      have cF := HI5.out.1.cF (i := b) hbn
                      have fF := HI5.out.1.fF
                      have fI := HI5.out.1.fI
                      have hfb := HI5.out.2.fill b hbn
                      have hcu := sts_lt (deps := deps) hbn (cur_lt hlt hb)
                      have hen : E = sts deps n n := by rw [HE2.out]; exact HSt.out n (Nat.le_refl _)
                      obtain ⟨x, hx⟩ : ∃ x, x = F5 b := ⟨_, rfl⟩
                      obtain ⟨x', hx'⟩ : ∃ x', x' = x + 1 := ⟨_, rfl⟩
                      have hxE : x < E := by omega
                      have cI := HI5.out.1.cI (i := x) hxE
                      have HS : Hid (T2 w ((wr.setCell ⟨w.heap.size + 1, x, none⟩ (.int .i64 (v : Int))).setCell ⟨w.heap.size + 2, b, none⟩ (.int .i64 (x' : Int))) n E S2 (upd I5 x v) (upd F5 b x')) := (HI5.out.1.setI x v).setF b x'
                      have hst := HI5.out.2.step hlt hb hbn
                      rw [← hx, ← hx'] at hst
                      rw [← hx] at cF
                      have HST : Hid _ := hst
                      have hxi : (x : Int) + 1 = (x' : Int) := by omega
                      have hx0 : (0 : Int) ≤ (x : Int) := by omega
                      have hx1 : (x : Int) < (E : Int) := by omega
                      have hb0 : (0 : Int) ≤ (b : Int) := by omega
                      have hb1 : (b : Int) < (n : Int) := by omega
                      clear hx hx' hfb hcu hcb hb hen hst
                      go_wp2_with fail
                      go_roundg (dl - (k + 1))
                      case measure => omega
                      case rel => exact ⟨k + 1, _, _, by go_num, by omega, Nat.le_refl _, HS.out, HST.out⟩
                    · go_wp2_with fail
                      go_roundg (n - (v + 1))
                      case measure => omega
                      case rel => exact ⟨v + 1, I5, F5, by go_num, by omega, Nat.le_refl _, HI5.out.1, HI5.out.2.next (by rw [← HDL.out]; omega)⟩
                · obtain rfl : n = v := by omega
                  go_wp2_with fail
                  have h2 := HI4.out.1
                  rw [HE2.out] at h2 hEb ⊢
                  refine bodyPost_ret (v := .tuple #[.slice (some ⟨w.heap.size, 0, none⟩) (n + 1) (n + 1), .slice (some ⟨w.heap.size + 1, 0, none⟩) (S2 n) (S2 n)]) (by simp [results, Try.results20, go_sem]) rfl ?_
                  exact ⟨S2, I4, rfl, h2.below, h2.row, h2.inn, HI4.out.2.rev HSt.out, hEb⟩
end Go.Proofs.Qxb6600314a
