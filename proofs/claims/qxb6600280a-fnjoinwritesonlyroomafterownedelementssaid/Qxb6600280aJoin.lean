/-
  WALK for seat b6600280a: (*chunkList).join (39).
-/
import Derived.Test.Qxb6600280aPut
namespace Go.Proofs.Qxb6600280a
open Go.RowKit
set_option linter.unusedVariables false
attribute [local go_sem ↓] Go.wp_at_zero Go.wp_at_succ

set_option maxRecDepth 100000 in
set_option maxHeartbeats 2000000 in
theorem join39 (w : World) (pl ca n cap f l : Nat) (R0 : List Rec) (bc : Nat → List Int) (rs : Nat → Rec) (hf : Fixed w pl ca n cap R0) (hJ : JInv w w pl ca n cap R0 bc rs)
    (c0 : w.cell? ⟨pl, 0, none⟩ = some (.slice (some ⟨ca, 0, none⟩) n cap)) (f0 : w.frozen? ⟨pl, 0, none⟩ = false) (hfl : f ≤ l) (hfn : f < n) (hl : l ≤ 1073741824) :
    Calls Try.prog 39 #[.pointer (some ⟨pl, 0, none⟩), .int .i64 f, .int .i64 l] w fun r w' => r = .returned (.tuple #[]) ∧ JPost w w' pl ca R0 bc := by
  have hcap := hf.nn
  have hnc := hf.ncap
  have HFx : Hid (Fixed w pl ca n cap R0) := hf
  have HJ : Hid (JInv w w pl ca n cap R0 bc rs) := hJ
  clear hf hJ
  by_cases hn2 : n < 2
  · go_enter Try.func39, Try.ntmps39
    go_wp2
    refine bodyPost_ret (results_none rfl _ _ _) rfl ?_
    exact ⟨rfl, HJ.out.buf, rfl, rfl, rfl, Nat.le_refl _, fun k hk _ h1 h2 => rfl⟩
  · obtain ⟨fi, hfi⟩ : ∃ fi, fi = f - 1 := ⟨_, rfl⟩
    obtain ⟨la, hla⟩ : ∃ la, la = min (l + 1) (n - 1) := ⟨_, rfl⟩
    have HE1 : Hid (f = 0 → fi = 0) := fun h => by omega
    have HE2 : Hid (0 < f → (f : Int) - 1 = (fi : Int)) := fun h => by omega
    have HE3 : Hid (l + 1 ≤ n - 1 → (l : Int) + 1 = (la : Int)) := fun h => by omega
    have HE4 : Hid (¬ l + 1 ≤ n - 1 → (n : Int) - 1 = (la : Int)) := fun h => by omega
    have k1 : fi < la := by omega
    have k2 : la < n := by omega
    clear hfi hla
    go_enter Try.func39, Try.ntmps39
    go_upto_region 1 with fail
    go_cut [1, 2] (fun v1 v2 wx => v1 = .int .i64 fi ∧ v2 = .int .i64 la ∧ ∃ m, wx = w.drewN m)
    case first =>
      by_cases a1 : f = 0
      · subst a1
        obtain rfl := HE1.out rfl
        by_cases a2 : l + 1 ≤ n - 1
        · have a3 := HE3.out a2
          go_quiet (fail)
          go_wp2_with fail
          go_meet
          exact ⟨rfl, by rw [← a3], _, rfl⟩
        · have a3 := HE4.out a2
          go_quiet (fail)
          go_wp2_with fail
          go_meet
          exact ⟨rfl, by rw [← a3], _, rfl⟩
      · have a0 := HE2.out (by omega)
        by_cases a2 : l + 1 ≤ n - 1
        · have a3 := HE3.out a2
          go_quiet (fail)
          go_wp2_with fail
          go_meet
          exact ⟨by rw [← a0], by rw [← a3], _, rfl⟩
        · have a3 := HE4.out a2
          go_quiet (fail)
          go_wp2_with fail
          go_meet
          exact ⟨by rw [← a0], by rw [← a3], _, rfl⟩
    case rest =>
      obtain ⟨rfl, rfl, m0, rfl⟩ := hcut
      go_wp2_with fail
      go_loopw [6, 7] (fun kv iv wr => ∃ (k i : Nat) (rs : Nat → Rec), k < i ∧ i ≤ la + 1 ∧ kv = .int .i64 k ∧ iv = .int .i64 i ∧ Hid (JInv w wr pl ca n cap R0 bc rs)) (fun _ iv _ => la + 1 - (intOf iv).toNat)
      case atStart => exact ⟨fi, fi + 1, rs, by omega, by omega, rfl, by simp, HJ.out.drewN m0⟩
      case round =>
        obtain ⟨k, i, rs, hki, hil, rfl, rfl, HI⟩ := hrel
        have c0' : wr.cell? ⟨pl, 0, none⟩ = some (.slice (some ⟨ca, 0, none⟩) n cap) := (World.cell?_of_block HI.out.plb).trans c0
        have f0' : wr.frozen? ⟨pl, 0, none⟩ = false := (World.frozen?_of_block HI.out.plb).trans f0
        clear c0 f0 HJ HE1 HE2 HE3 HE4
        by_cases hlt : i ≤ la
        · have fA := fun q => arr_free HI.out.arr q
          have seA := (HI.out.ok k (by omega)).se
          have eLA := (HI.out.ok k (by omega)).eL
          have LLA := (HI.out.ok k (by omega)).LL
          have seB := (HI.out.ok i (by omega)).se
          have eLB := (HI.out.ok i (by omega)).eL
          have LLB := (HI.out.ok i (by omega)).LL
          obtain ⟨a0, a1, a2, a3, a4⟩ := (HI.out.at' k (by omega)).all
          obtain ⟨b0, b1, b2, b3, b4⟩ := (HI.out.at' i (by omega)).all
          obtain ⟨A, hA⟩ : ∃ A, A = rs k := ⟨_, rfl⟩
          obtain ⟨B, hB⟩ : ∃ B, B = rs i := ⟨_, rfl⟩
          rw [← hA] at a0 a1 a2 a3 a4 seA eLA LLA
          rw [← hB] at b0 b1 b2 b3 b4 seB eLB LLB
          have HA : Hid (A = rs k) := hA
          have HB : Hid (B = rs i) := hB
          clear hA hB
          obtain ⟨gA, LA, sA, eA, cA, oA⟩ := A
          obtain ⟨gB, LB, sB, eB, cB, oB⟩ := B
          dsimp only at a0 a1 a2 a3 a4 seA eLA LLA b0 b1 b2 b3 b4 seB eLB LLB
          obtain ⟨dA, hdA⟩ : ∃ dA, sA + dA = eA := ⟨eA - sA, by omega⟩
          obtain ⟨dB, hdB⟩ : ∃ dB, sB + dB = eB := ⟨eB - sB, by omega⟩
          have hi1 : (0 : Int) ≤ (k : Int) := by omega
          have hi2 : (k : Int) < (n : Int) := by omega
          have hi3 : (0 : Int) ≤ (i : Int) := by omega
          have hi4 : (i : Int) < (n : Int) := by omega
          go_upto_region 6 with fail
          have A42 : ∀ m, Calls Try.prog 42 #[.pointer (some ⟨ca, k * 5, none⟩)] (wr.drewN m) fun r w' => r = .returned (.int .i64 dA) ∧ ∃ m', w' = wr.drewN m' := fun m => (size42d (wr.drewN m) ca (k * 5) sA eA dA hdA a1 a2 (by omega)).mono (by rintro r w' ⟨rfl, m', rfl⟩; exact ⟨rfl, m + m', World.drewN_drewN _ _ _⟩)
          have B42 : ∀ m, Calls Try.prog 42 #[.pointer (some ⟨ca, i * 5, none⟩)] (wr.drewN m) fun r w' => r = .returned (.int .i64 dB) ∧ ∃ m', w' = wr.drewN m' := fun m => (size42d (wr.drewN m) ca (i * 5) sB eB dB hdB b1 b2 (by omega)).mono (by rintro r w' ⟨rfl, m', rfl⟩; exact ⟨rfl, m + m', World.drewN_drewN _ _ _⟩)
          obtain ⟨rm, hrm⟩ : ∃ rm, rm = (oA && decide (dB ≤ LA - eA)) := ⟨_, rfl⟩
          have HRm : Hid (rm = (oA && decide (dB ≤ LA - eA))) := hrm
          clear hrm
          have A43 : ∀ m, Calls Try.prog 43 #[.pointer (some ⟨ca, k * 5, none⟩), .int .i64 dB, .bool false] (wr.drewN m) fun r w' => r = .returned (.bool rm) ∧ ∃ m', w' = wr.drewN m' := fun m => (room43 (wr.drewN m) ca (k * 5) LA eA _ _ oA dB a0 a2 a4 (by omega) (by omega) (by omega)).mono (by rintro r w' ⟨rfl, m', rfl⟩; exact ⟨by rw [HRm.out], m + m', World.drewN_drewN _ _ _⟩)
          go_quiet (fail)
          by_cases hsum : 4096 < dA + dB
          · have hs5 : (0 : Int) ≤ (k : Int) + 1 := by omega
            have hs6 : (k : Int) + 1 < (n : Int) := by omega
            have hs7 : ((k : Int) + 1).toNat = k + 1 := by omega
            go_upto_region 9 with (first | (go_at_call 42; with_reducible refine (A42 _).mono ?_; rintro r w' ⟨rfl, m1, rfl⟩) | (go_at_call 42; with_reducible refine (B42 _).mono ?_; rintro r w' ⟨rfl, m2, rfl⟩))
            obtain ⟨x0, x1, x2, x3, x4⟩ := (HI.out.at' (k + 1) (by omega)).all
            generalize rs (k + 1) = C at x0 x1 x2 x3 x4
            clear A42 B42 A43
            go_region
            go_wp2_with fail
            go_round
            case rel => exact ⟨k + 1, i + 1, _, by omega, by omega, by go_num, by go_num, (HI.out.drewN (m2 + 1)).put HFx.out (j := k + 1) (by omega) (r := ⟨gB, LB, sB, eB, cB, oB⟩) (by rw [HB.out]; exact (HI.out.drewN (m2 + 1)).ok i (by omega))⟩
            case measure => simp [intOf]; omega
          · go_upto_if 69 with (first | (go_at_call 42; with_reducible refine (A42 _).mono ?_; rintro r w' ⟨rfl, m1, rfl⟩) | (go_at_call 42; with_reducible refine (B42 _).mono ?_; rintro r w' ⟨rfl, m2, rfl⟩) | (go_at_call 43; with_reducible refine (A43 _).mono ?_; rintro r w' ⟨rfl, m3, rfl⟩))
            have hk3 : dB ≤ 4096 := by omega
            have hk4 : dA ≤ 4096 := by omega
            go_cut [] (fun wx => ∃ rs' gX LX sX eX, JInv w wx pl ca n cap R0 bc rs' ∧ rs' k = ⟨gX, LX, sX, eX, cA, true⟩ ∧ rs' i = ⟨gB, LB, sB, eB, cB, oB⟩ ∧ eX + dB ≤ LX)
            case first =>
              cases rm
              · obtain ⟨bsA, hrowA⟩ := (HI.out.ok k (by omega)).row
                rw [← HA.out] at hrowA
                dsimp only at hrowA
                obtain ⟨bs, hbs⟩ : ∃ bs, bs = (bsA.drop sA).take dA := ⟨_, rfl⟩
                have hbl : bs.length = dA := by rw [hbs]; simp [hrowA.1]; omega
                have hbc : ∀ j v, (bs.map (Value.int .u8))[j]? = some v → wr.cell? ((⟨gA, sA, none⟩ : Addr).add j) = some v := fun j v hv => by
                  rw [Addr.add_lit, cell_of_row wr gA (sA + j) _ 5 (0, 0) hrowA.2]
                  rw [hbs, List.getElem?_map, List.getElem?_take, List.getElem?_drop] at hv
                  by_cases hj : j < dA
                  · rw [if_pos hj] at hv
                    simpa using hv
                  · rw [if_neg hj] at hv
                    simp at hv
                obtain ⟨z, hz⟩ : ∃ z, dA + z = 4096 := ⟨4096 - dA, by omega⟩
                have hzi : (4096 : Int) - (dA : Int) = (z : Int) := by omega
                have A44 : ∀ m, Calls Try.prog 44 #[.pointer (some ⟨ca, k * 5, none⟩), .int .i64 z, .bool false] (wr.drewN m) fun r w' => ∃ h, r = .returned (.agg #[.slice (some ⟨h, 0, none⟩) 4096 4096, .int .i64 0, .int .i64 dA, .int .i64 cA, .bool true]) ∧ wr.heap.size ≤ h ∧
                    (∃ bs' : List Int, bs'.length = 4096 ∧ w'.heap[h]? = some (.cells (bs'.map (Value.int .u8)).toArray 5 (0, 0))) ∧ Below wr.heap.size wr w' := fun m => by
                  have := room44 (wr.drewN m) ca (k * 5) gA LA sA eA dA z cA hdA a0 a1 a2 a3 (by omega) (by omega) (by omega) (by omega) bs hbl hbc
                  rw [hz] at this
                  refine this.mono ?_
                  rintro r w' ⟨h, rfl, h1, h2, h3⟩
                  exact ⟨h, rfl, h1, h2, (below_drewN (Below.refl _ _) m).trans h3⟩
                clear A43 B42 hbc hrowA b0 b1 b2 b3 b4
                have hkn : k < n := by omega
                go_wp2_with (first | (go_at_call 42; with_reducible refine (A42 _).mono ?_; rintro r w' ⟨rfl, m1, rfl⟩) | (go_at_call 44; (with_reducible refine (A44 _).mono ?_); rintro r w' ⟨h, rfl, h1, ⟨bs', hl', hr'⟩, hBl⟩; have HI2 : Hid (JInv w w' pl ca n cap R0 bc rs) := HI.out.below HFx.out hBl; have y0 := cell_later hBl a0; have y1 := cell_later hBl a1; have y2 := cell_later hBl a2; have y3 := cell_later hBl a3; have y4 := cell_later hBl a4; have yf := fun q => arr_free HI2.out.arr q; have HR : Hid (w'.heap[h]? = some (.cells (bs'.map (Value.int .u8)).toArray 5 (0, 0))) := hr'; clear hr'))
                go_meet
                exact ⟨_, h, 4096, 0, dA, HI2.out.put HFx.out hkn (r := ⟨h, 4096, 0, dA, cA, true⟩) ⟨by show 0 < dA; omega, hk4, by show 4096 ≤ 262144; omega, ⟨bs', hl', HR.out⟩, .inr (Nat.le_trans HI.out.size h1)⟩, by simp, by rw [if_neg (by omega)]; exact HB.out.symm, by omega⟩
              · have hr2 : oA = true ∧ dB ≤ LA - eA := by simpa using HRm.out.symm
                obtain ⟨rfl, hr3⟩ := hr2
                go_wp2_with fail
                go_meet
                exact ⟨rs, gA, LA, sA, eA, HI.out.drewN _, HA.out.symm, HB.out.symm, by omega⟩
            case rest =>
              obtain ⟨rs', gX, LX, sX, eX, hI2, hX, hBx, hfit⟩ := hcut
              have HI' : Hid _ := hI2
              clear a0 a1 a2 a3 a4 b0 b1 b2 b3 b4 A42 B42 A43 HA HB HRm fA seA eLA LLA hdA hsum c0' f0' hI2
              have okX := HI'.out.ok k (by omega)
              rw [hX] at okX
              have seX := okX.se
              have eLX := okX.eL
              have LLX := okX.LL
              obtain ⟨a0, a1, a2, a3, a4⟩ := (HI'.out.at' k (by omega)).all
              obtain ⟨b0, b1, b2, b3, b4⟩ := (HI'.out.at' i (by omega)).all
              have fA := fun q => arr_free HI'.out.arr q
              obtain ⟨bsX, rowX⟩ := (HI'.out.ok k (by omega)).row
              obtain ⟨bsB, rowB⟩ := (HI'.out.ok i (by omega)).row
              have hgX := HI'.out.ne_ca HFx.out (j := k) (by omega)
              rw [hX] at a0 a1 a2 a3 a4 rowX hgX
              rw [hBx] at b0 b1 b2 b3 b4 rowB
              dsimp only at a0 a1 a2 a3 a4 b0 b1 b2 b3 b4 seX eLX LLX rowX rowB hgX
              have HX : Hid _ := hX
              have HOk : Hid _ := okX
              have HBx : Hid _ := hBx
              clear hX okX hBx
              go_upto_region 12 with fail
              go_cut [] (fun wx => JInv w wx pl ca n cap R0 bc rs')
              case first =>
                obtain ⟨xs, hxs⟩ : ∃ xs, xs = (bsB.drop sB).take dB := ⟨_, rfl⟩
                have hxl : xs.length = dB := by rw [hxs]; simp [rowB.1]; omega
                have hsrc : ∀ j v, (xs.map (Value.int .u8))[j]? = some v → wc.cell? ((⟨gB, sB, none⟩ : Addr).add j) = some v := fun j v hv => by
                  rw [Addr.add_lit, cell_of_row wc gB (sB + j) _ 5 (0, 0) rowB.2]
                  rw [hxs, List.getElem?_map, List.getElem?_take, List.getElem?_drop] at hv
                  by_cases hj : j < dB
                  · rw [if_pos hj] at hv
                    simpa using hv
                  · rw [if_neg hj] at hv
                    simp at hv
                obtain ⟨F, hF1, hF2, hF3⟩ := copy_runs wc gX eX (LX - eX) (LX - eX) ⟨gB, sB, none⟩ dB dB (bsX.map (Value.int .u8)) (xs.map (Value.int .u8)) rowX.2 (by rw [List.length_map, hxl]; exact (Nat.min_eq_left (by omega)).symm) hsrc (by rw [List.length_map, List.length_map, hxl, rowX.1]; exact hfit) (ints_oneCell .u8 xs)
                rw [List.length_map, hxl] at hF1
                have lca : ca < wc.heap.size := World.block_lt_of_cell? _ _ a0
                have hne : some ca ≠ some gX := by simpa using Ne.symm hgX
                have F0 : ∀ q, (F q).cell? ⟨ca, k * 5, none⟩ = some (.slice (some ⟨gX, 0, none⟩) LX LX) := fun q => ((hF3 q).cell_far _ lca hne).trans a0
                have F2 : ∀ q, (F q).cell? ⟨ca, k * 5 + 2, none⟩ = some (.int .i64 eX) := fun q => ((hF3 q).cell_far _ lca hne).trans a2
                have F3 : ∀ q, (F q).cell? ⟨ca, i * 5, none⟩ = some (.slice (some ⟨gB, 0, none⟩) LB LB) := fun q => ((hF3 q).cell_far _ lca hne).trans b0
                have F4 : ∀ q, (F q).cell? ⟨ca, i * 5 + 1, none⟩ = some (.int .i64 sB) := fun q => ((hF3 q).cell_far _ lca hne).trans b1
                have F5 : ∀ q, (F q).cell? ⟨ca, i * 5 + 2, none⟩ = some (.int .i64 eB) := fun q => ((hF3 q).cell_far _ lca hne).trans b2
                have HW : Hid (∀ q, JInv w (F q) pl ca n cap R0 bc rs') := fun q => HI'.out.write HFx.out (j := k) (by omega) (by rw [HX.out]) (bs := bsX) (xs := xs) (by rw [HX.out]; exact rowX) (by rw [HX.out, hxl]; exact hfit) (by rw [HX.out]; exact hF2 q) (by rw [HX.out]; exact hF3 q)
                clear hF2 hF3 hsrc rowX rowB hxs hxl fA
                have i1 : (0 : Int) ≤ (eX : Int) := by omega
                have i2 : (eX : Int) ≤ (LX : Int) := by omega
                have i3 : ¬ LX = eX := by omega
                have i4 : IntKind.i64.wrap (eX : Int) = (eX : Int) := by rw [IntKind.wrap_i64]; omega
                have hdp : 0 < dB := by omega
                have hL2 : LB ≤ 1073741824 := by omega
                go_region_held3 (fun w' => w'.cell? ⟨ca, k * 5, none⟩ = some (.slice (some ⟨gX, 0, none⟩) LX LX) ∧ w'.cell? ⟨ca, k * 5 + 2, none⟩ = some (.int .i64 eX) ∧ w'.cell? ⟨ca, i * 5, none⟩ = some (.slice (some ⟨gB, 0, none⟩) LB LB) ∧ w'.cell? ⟨ca, i * 5 + 1, none⟩ = some (.int .i64 sB) ∧ w'.cell? ⟨ca, i * 5 + 2, none⟩ = some (.int .i64 eB))
                  (go_keep)
                  (first | (go_at_call 40; refine (elements40d _ ca (i * 5) gB LB sB eB dB hdB ?_ ?_ ?_ hdp eLB hL2).mono ?_; (simp [*]); (simp [*]); (simp [*]); rintro r w' ⟨rfl, m5, rfl⟩))
                all_goals
                  go_wp2_with fail
                  go_meet
                  exact HW.out _
              case rest =>
                have HI3 : Hid (JInv w wc pl ca n cap R0 bc rs') := hcut
                clear hcut a0 a1 a2 a3 a4 b0 b1 b2 b3 b4 fA rowX rowB
                obtain ⟨a0, a1, a2, a3, a4⟩ := (HI3.out.at' k (by omega)).all
                obtain ⟨b0, b1, b2, b3, b4⟩ := (HI3.out.at' i (by omega)).all
                have fA := fun q => arr_free HI3.out.arr q
                rw [HX.out] at a0 a1 a2 a3 a4
                rw [HBx.out] at b0 b1 b2 b3 b4
                dsimp only at a0 a1 a2 a3 a4 b0 b1 b2 b3 b4
                have B42 : ∀ m, Calls Try.prog 42 #[.pointer (some ⟨ca, i * 5, none⟩)] (wc.drewN m) fun r w' => r = .returned (.int .i64 dB) ∧ ∃ m', w' = wc.drewN m' := fun m => (size42d (wc.drewN m) ca (i * 5) sB eB dB hdB b1 b2 (by omega)).mono (by rintro r w' ⟨rfl, m', rfl⟩; exact ⟨rfl, m + m', World.drewN_drewN _ _ _⟩)
                have B42' : Calls Try.prog 42 #[.pointer (some ⟨ca, i * 5, none⟩)] wc.drew fun r w' => r = .returned (.int .i64 dB) ∧ ∃ m', w' = wc.drewN m' := B42 1
                obtain ⟨eY, heY⟩ : ∃ eY, eY = eX + dB := ⟨_, rfl⟩
                have hxe : (eX : Int) + (dB : Int) = (eY : Int) := by omega
                have hwY : IntKind.i64.wrap (eY : Int) = (eY : Int) := by rw [IntKind.wrap_i64]; omega
                have HeY : Hid (eY = eX + dB) := heY
                clear heY
                have fA2 := fA (k * 5 + 2)
                have fA3 := fA (k * 5 + 3)
                clear fA
                go_upto_region 13 with fail
                go_cut [] (fun wx => ∃ m, wx = (wc.drewN m).setCell ⟨ca, k * 5 + 2, none⟩ (.int .i64 eY))
                case first =>
                  go_region_with (first | (go_at_call 42; (with_reducible refine (B42 _).mono ?_); rintro r w' ⟨rfl, m7, rfl⟩) | (go_at_call 42; (with_reducible refine B42'.mono ?_); rintro r w' ⟨rfl, m7, rfl⟩))
                  all_goals
                    go_wp2_with fail
                    go_meet
                    exact ⟨_, rfl⟩
                case rest =>
                  obtain ⟨m8, rfl⟩ := hcut
                  clear B42 B42'
                  have hV2 : ((wc.drewN m8).setCell ⟨ca, k * 5 + 2, none⟩ (.int .i64 eY)).cell? ⟨ca, k * 5 + 3, none⟩ = some (.int .i64 cA) := (arr_other _ (by omega)).trans a3
                  have hV3 : ((wc.drewN m8).setCell ⟨ca, k * 5 + 2, none⟩ (.int .i64 eY)).cell? ⟨ca, i * 5 + 3, none⟩ = some (.int .i64 cB) := (arr_other _ (by omega)).trans b3
                  have hV4 : ((wc.drewN m8).setCell ⟨ca, k * 5 + 2, none⟩ (.int .i64 eY)).frozen? ⟨ca, k * 5 + 3, none⟩ = false := arr_free (arr_set (HI3.out.drewN m8).arr) _
                  have HP : Hid (∀ (c : Int) m, ∃ rs3, JInv w ((((wc.drewN m8).setCell ⟨ca, k * 5 + 2, none⟩ (.int .i64 eY)).drewN m).setCell ⟨ca, k * 5 + 3, none⟩ (.int .i64 c)) pl ca n cap R0 bc rs3) := fun c m => by
                    have okX := (HI3.out.drewN m8).ok k (by omega)
                    rw [HX.out] at okX
                    exact ⟨_, (HI3.out.drewN m8).put2 HFx.out (j := k) (by omega) (r := ⟨gX, LX, sX, eY, c, true⟩) ⟨by have := okX.se; have := HeY.out; dsimp only at *; omega, by have := HeY.out; dsimp only at *; omega, okX.LL, okX.row, by
                      rcases okX.from' with ⟨q, hq, h1, h2, h3, h4⟩ | hN
                      · exact .inl ⟨q, hq, h1, h2, h3, by have := HeY.out; dsimp only at *; omega⟩
                      · exact .inr hN⟩ (by rw [HX.out]) (by rw [HX.out]) (by rw [HX.out]) (by rw [HX.out]) m⟩
                  revert hV2 hV3 hV4 HP
                  generalize (wc.drewN m8).setCell ⟨ca, k * 5 + 2, none⟩ (.int .i64 eY) = V
                  intro hV2 hV3 hV4 HP
                  clear a0 a1 a2 a3 a4 b0 b1 b2 b3 b4
                  go_upto_region 14 with fail
                  go_region
                  go_wp2_with fail
                  go_round
                  case rel =>
                    obtain ⟨rs3, h3⟩ := HP.out (wrap64 (cA + cB)) 0
                    exact ⟨k, i + 1, rs3, by omega, by omega, by go_num, by go_num, h3.drewN 1⟩
                  case measure => simp [intOf]; omega
        · obtain rfl : i = la + 1 := by omega
          have hs := splice45 wr pl ca n cap (k + 1) (la + 1) c0' f0' HI.out.arr HI.out.ones HFx.out.pc hnc hcap (by omega) (by omega) (by omega)
          simp only [Int.natCast_add, Int.natCast_one] at hs
          go_wp2_with (go_at_call 45; refine hs.mono ?_; rintro r w' ⟨rfl, ho⟩)
          go_end0
          exact ⟨rfl, JPost.of HI.out HFx.out ho⟩
end Go.Proofs.Qxb6600280a
