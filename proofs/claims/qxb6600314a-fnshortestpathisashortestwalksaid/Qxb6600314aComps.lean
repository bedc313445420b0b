/-
  WALK for seat b6600314a: components (19).
-/
import Derived.Test.Qxb6600314aSteps
import Derived.Deep.LoopGhost
namespace Go.Proofs.Qxb6600314a
open Go.RowKit
set_option linter.unusedVariables false

theorem Try.info4 : (Try.prog.info? 4).map (fun i => (i.zero, i.size, i.bytes)) = some (some (.bool false), 1, 1) := by kernel_rfl

/-- The graph in memory. -/
structure Graph (w : World) (D n : Nat) (deps : Nat → List Nat) : Prop where
  row : ∀ i, i < n → ∃ r c, w.cell? ⟨D, i, none⟩ = some (.slice r (deps i).length c) ∧ ∀ k v : Nat, (deps i)[k]? = some v → ∃ R, r = some ⟨R, 0, none⟩ ∧ w.cell? ⟨R, k, none⟩ = some (.int .i64 (v : Int))
  len : ∀ i, i < n → (deps i).length ≤ 1048576
  bnd : ∀ i, i < n → ∀ v ∈ deps i, v < n

theorem Graph.below {w wr : World} {D n : Nat} {deps : Nat → List Nat} (h : Graph w D n deps) (hb : Below w.heap.size w wr) : Graph wr D n deps := by
  refine ⟨fun i hi => ?_, h.len, h.bnd⟩
  obtain ⟨r, c, h1, h2⟩ := h.row i hi
  refine ⟨r, c, (hb.cell (p := ⟨D, i, none⟩) (World.block_lt_of_cell? _ _ h1)).trans h1, fun k v hk => ?_⟩
  obtain ⟨R, hR, h3⟩ := h2 k v hk
  exact ⟨R, hR, (hb.cell (p := ⟨R, k, none⟩) (World.block_lt_of_cell? _ _ h3)).trans h3⟩

/-- So many of the ten blocks lie. -/
structure St (w wx : World) (m : Nat) (x : Fx) : Prop where
  below : Below w.heap.size w wx
  size : wx.heap.size = w.heap.size + m
  blk : ∀ i, i < m → wx.heap[w.heap.size + i]? = some (x.obj w.heap.size i)
theorem St.al {w wx : World} {m : Nat} {x : Fx} {ob : Obj} (h : St w wx m x) (ho : x.obj w.heap.size m = ob) : St w (wx.alloc ob) (m + 1) x := by
  refine ⟨h.below.alloc (by rw [h.size]; omega) _, by rw [sz_alloc, h.size]; omega, fun i hi => ?_⟩
  by_cases e : i = m
  · subst e
    rw [← h.size, ho]
    exact heap_alloc_new _ _
  · rw [Below.heap_alloc _ _ _ (by rw [h.size]; omega)]
    exact h.blk i (by omega)
theorem St.box {w wx : World} {m : Nat} {x : Fx} {z u : Value} {t : TypeId} (h : St w wx m x) (ho : x.obj w.heap.size m = .cells #[u] t (0, 0)) : St w ((wx.alloc (.cells #[z] t)).setCell ⟨w.heap.size + m, 0, none⟩ u) (m + 1) x := by
  have hb : ∀ k, k ≠ w.heap.size + m → ((wx.alloc (.cells #[z] t)).setCell ⟨w.heap.size + m, 0, none⟩ u).heap[k]? = (wx.alloc (.cells #[z] t)).heap[k]? := fun k hk => Below.heap_setCell _ _ _ _ hk
  refine ⟨(h.below.alloc (by rw [h.size]; omega) _).setCell (by simp) _, by simp [World.setCell, h.size]; omega, fun i hi => ?_⟩
  by_cases e : i = m
  · subst e
    rw [ho]
    have := heap_setCell_same (i := 0) (w := wx.alloc (.cells #[z] t)) (b := w.heap.size + i) (cs := #[z]) (t := t) (fr := (0, 0)) (by rw [← h.size]; exact heap_alloc_new _ _) u
    simpa using this
  · rw [hb _ (by omega), Below.heap_alloc _ _ _ (by rw [h.size]; omega)]
    exact h.blk i (by omega)
def fx0 (n : Nat) : Fx := ⟨n, fun _ => 0, fun _ => 0, fun _ => false, fun _ => 0, 0, .slice none 0 0, .slice none 0 0⟩
theorem irow0 (n : Nat) : irow n (fun _ => 0) = madeCells #[.int .i64 0] n := by
  apply Array.ext'
  rw [toList_madeCells_one]
  simp [irow, ints]
  apply List.ext_getElem?
  intro i
  by_cases h : i < n <;> simp [h]
theorem brow0 (n : Nat) : brow n (fun _ => false) = madeCells #[.bool false] n := by
  apply Array.ext'
  rw [toList_madeCells_one]
  simp [brow]
  apply List.ext_getElem?
  intro i
  by_cases h : i < n <;> simp [h]

def startW (w : World) (n : Nat) : World :=
  ((((((((((w.alloc (.cells (irow n fun _ => 0) 3)).alloc (.cells #[.slice (some ⟨w.heap.size, 0, none⟩) n n] 25)).alloc (.cells (irow n fun _ => 0) 3)).alloc (.cells #[.slice (some ⟨w.heap.size + 2, 0, none⟩) n n] 25)).alloc
    (.cells (brow n fun _ => false) 4)).alloc (.cells #[.slice (some ⟨w.heap.size + 4, 0, none⟩) n n] 33)).alloc (.cells (irow n fun _ => 0) 3)).alloc (.cells #[.slice none 0 0] 25)).alloc (.cells #[.int .i64 0] 3)).alloc (.cells #[.slice none 0 0] 36))
theorem start_st (w : World) (n : Nat) : St w (startW w n) 10 (fx0 n) := by
  have h0 : St w w 0 (fx0 n) := ⟨Below.refl _ _, rfl, fun i hi => by omega⟩
  exact (((((((((h0.al rfl).al rfl).al rfl).al rfl).al rfl).al rfl).al rfl).al rfl).al rfl).al rfl
theorem unmet_all (n : Nat) : unmet n (fun _ => 0) = n := by
  unfold unmet
  induction n with
  | zero => rfl
  | succ n ih =>
    rw [List.range_succ, List.map_append, List.sum_append, ih]
    simp
theorem start_ti (w : World) (n : Nat) (deps : Nat → List Nat) : TI w (startW w n) deps n ⟨fun _ => 0, fun _ => 0, fun _ => 0, [], 0, 0⟩ := by
  have h := start_st w n
  refine ⟨tinv_start _ _, ⟨fun _ => false, .slice none 0 0, .slice none 0 0, fun v => by simp [stackOf], h.below, h.blk, ⟨rfl, .inl ⟨rfl, rfl⟩⟩, ⟨rfl, .inl ⟨rfl, rfl⟩⟩, fun g hg => by simp [Value.ownBlock] at hg⟩, ?_, Nat.le_refl _⟩
  show 0 + unmet n (fun _ => 0) = n
  rw [unmet_all]
  omega

set_option maxRecDepth 100000 in
set_option maxHeartbeats 1000000 in
theorem comps19 (w : World) (D n : Nat) (deps : Nat → List Nat) (hG : Graph w D n deps) (hn : n ≤ 65536) :
    Calls Try.prog 19 #[.slice (some ⟨D, 0, none⟩) n n] w fun r w' => ∃ comp, r = .returned (.slice (some ⟨w.heap.size + 6, 0, none⟩) n n) ∧ Below w.heap.size w w' ∧ Comps deps n comp ∧ w'.heap[w.heap.size + 6]? = some (.cells (irow n comp) 3 (0, 0)) := by
  have mk := run_make_row' (P := Try.prog) 25 3 (.int .i64 0) 8 Try.underlying25 Try.info3 rfl .i64 .i64 n (by omega) (by omega)
  have mkb := run_make_row' (P := Try.prog) 33 4 (.bool false) 1 Try.underlying33 Try.info4 rfl .i64 .i64 n (by omega) (by omega)
  rw [← irow0] at mk
  rw [← brow0] at mkb
  have HG : Hid _ := hG
  clear hG
  go_enter Try.func19, Try.ntmps19
  go_upto_region 10 with fail
  change Code.wp _ _ _ _ (startW w n)
  have HT : Hid _ := start_ti w n deps
  generalize startW w n = W at HT ⊢
  simp only [Nat.add_assoc, Nat.reduceAdd]
  clear mk mkb
  go_wp2_with fail
  go_loopg [10, 31] n (fun gk s10 s31 wr => ∃ (s : TS) (i : Nat), s10 = .int .i64 (s.found : Int) ∧ s31 = .int .i64 (i : Int) ∧ i ≤ n ∧ n - i ≤ gk ∧ Hid (TI w wr deps n s ∧ s.fr = [] ∧ ∀ v, v < i → s.order v ≠ 0))
  case atStart => exact ⟨_, 0, rfl, rfl, Nat.zero_le _, by omega, HT.out, rfl, fun v hv => by omega⟩
  case round =>
    obtain ⟨s, i, rfl, rfl, hi, hgk, HT2⟩ := hrel
    clear HT
    by_cases hlt : i < n
    · obtain ⟨k, v1, v2, hk, hm⟩ := HT2.out.1.mem
      obtain ⟨y1, y2, y3, y4⟩ := HT2.out.1.bounds
      obtain ⟨b1, b3, b5, b7, b8, b9⟩ := hm.boxes
      have cO := hm.cO (v := i) hlt
      dsimp only at b1 b3 b5 b7 b8 b9 cO
      have hi0 : (0 : Int) ≤ (i : Int) := by omega
      have hi1 : (i : Int) < (n : Int) := by omega
      by_cases h0 : s.order i = 0
      · have M22 := meet22 w wr _ _ _ i hm hlt hn (by dsimp only; omega) (by rw [List.length_reverse]; omega) (by rw [frs_len]; omega)
        dsimp only at M22
        have HK : Hid _ := hk
        have HM : Hid _ := hm
        have H0 : Hid _ := h0
        rw [h0] at cO
        clear hk hm h0 y1 y2 y3 y4
        go_wp2_with (go_at_call 22; refine M22.mono ?_; rintro r w' ⟨rfl, u1, u2, hm2⟩; have HM2 : Hid _ := hm2; clear hm2)
        clear M22 b1 b3 b5 b7 b8 b9 cO
        obtain ⟨s0, ht0, hf0, ho0, ha0⟩ := HT2.out.1.stepRoot' HT2.out.2.1 hlt H0.out HK.out HM2.out
        have HT3 : Hid (TI w w' deps n s0 ∧ ∀ v, v < i + 1 → s0.order v ≠ 0) := ⟨ht0, fun v hv => by
          by_cases e : v = i
          · rw [e]; exact ha0
          · exact ho0 v (HT2.out.2.2 v (by omega))⟩
        rw [← hf0]
        clear hf0 ht0 ho0 ha0 HM2 HM HK HT2 H0
        obtain ⟨W2, rfl⟩ : ∃ W2, W2 = w' := ⟨_, rfl⟩
        clear wr v1 v2 k u1 u2 s
        go_loopg [10] (rank deps n s0) (fun gk s10 wr => ∃ (s : TS), s10 = .int .i64 (s.found : Int) ∧ Hid (rank deps n s ≤ gk ∧ TI w wr deps n s ∧ ∀ v, v < i + 1 → s.order v ≠ 0))
        case atStart => exact ⟨s0, rfl, Nat.le_refl _, HT3.out⟩
        case round =>
          obtain ⟨s, rfl, HT4⟩ := hrel
          clear HT3
          clear s0 W2
          obtain ⟨k, v1, v2, hk, hm⟩ := HT4.out.2.1.mem
          obtain ⟨y1, y2, y3, y4⟩ := HT4.out.2.1.bounds
          rcases hfr : s.fr with _ | ⟨f, rest⟩
          · obtain ⟨p, cap, hv2⟩ := hm.formC
            obtain ⟨b1, b3, b5, b7, b8, b9⟩ := hm.boxes
            dsimp only at b1 b3 b5 b7 b8 b9 hv2
            rw [hv2, frs_len, hfr] at b9
            dsimp only [List.length] at b9
            have HFR : Hid _ := hfr
            clear hfr hk hm
            go_wp2_with fail
            go_roundg (n - (i + 1))
            case measure => omega
            case rel => exact ⟨s, i + 1, rfl, by go_num, by omega, by omega, HT4.out.2.1, HFR.out, HT4.out.2.2⟩
          · obtain ⟨a, nx, sg⟩ := f
            have e1 : frs s.fr = frs rest ++ [(a, nx)] := by rw [hfr, frs_cons]
            have hat : a < n := HT4.out.2.1.inv.bnd a (HT4.out.2.1.inv.pos a (by rw [hfr]; simp [stackOf]))
            have hml : (frs rest).length + 1 ≤ n := by rw [hfr] at y3; rw [frs_len]; simpa using y3
            rw [e1] at hm
            obtain ⟨g, cap, hv2, c1, c2, cf, hcap, hg10⟩ := hm.topC
            obtain ⟨b1, b3, b5, b7, b8, b9⟩ := hm.boxes
            obtain ⟨r, c, hr, hrk⟩ := (HG.out.below hm.below).row a hat
            have hlen := HG.out.len a hat
            have cLa := hm.cL (v := a) hat
            have cOa := hm.cO (v := a) hat
            dsimp only at b1 b3 b5 b7 b8 b9 hv2 cLa cOa
            subst hv2
            obtain ⟨m, hmm⟩ : ∃ m, m = (frs rest).length := ⟨_, rfl⟩
            rw [← hmm] at b9 c1 c2 hcap hml
            have HMM : Hid _ := hmm
            have HFR : Hid _ := hfr
            have HK : Hid _ := hk
            have HM : Hid _ := hm
            clear hfr e1 hk hm hmm
            have ha0 : (0 : Int) ≤ (a : Int) := by omega
            have ha1 : (a : Int) < (n : Int) := by omega
            by_cases hnx : nx < (deps a).length
            · obtain ⟨b, hb⟩ : ∃ b, (deps a)[nx]? = some b := ⟨_, List.getElem?_eq_getElem hnx⟩
              obtain ⟨R, rfl, hcb⟩ := hrk nx b hb
              have hbn := HG.out.bnd a hat b (List.mem_of_getElem? hb)
              have HB : Hid _ := hb
              have cOb := HM.out.cO (v := b) hbn
              have cKb := HM.out.cK (v := b) hbn
              dsimp only at cOb cKb
              clear hrk hb
              have hnx1 : (nx : Int) < ((deps a).length : Int) := by omega
              generalize (deps a).length = dl at *
              go_upto_region 18 with fail
              go_quiet (fail)
              obtain ⟨q1, rfl⟩ : ∃ q, q = nq := ⟨_, rfl⟩
              go_upto_region 19 with fail
              go_quiet (fail)
              obtain ⟨q2, rfl⟩ : ∃ q, q = nq := ⟨_, rfl⟩
              go_upto_region 21 with fail
              obtain ⟨nx', hnx'⟩ : ∃ q, q = nx + 1 := ⟨_, rfl⟩
              have hnc : (nx : Int) + 1 = (nx' : Int) := by omega
              rw [hnc]
              clear hnc
              have HM2 := (HM.out.drewN (q1 + q2)).bump (k' := nx') rfl
              rw [← HMM.out] at HM2
              generalize ((wr.drewN (q1 + q2)).setCell ⟨g, m * 2 + 1, none⟩ (.int .i64 (nx' : Int))) = W2 at HM2 ⊢
              clear b1 b3 b5 b7 b8 b9 c1 c2 cf cLa cOa cOb cKb hr hcb
              obtain ⟨b1, b3, b5, b7, b8, b9⟩ := HM2.boxes
              have cOb := HM2.cO (v := b) hbn
              have cKb := HM2.cK (v := b) hbn
              have cLa := HM2.cL (v := a) hat
              have fL := fun j => HM2.free (i := 2) (by omega) j
              dsimp only at b1 b3 b5 b7 b8 b9 cOb cKb cLa
              have hb0 : (0 : Int) ≤ (b : Int) := by omega
              have hb1 : (b : Int) < (n : Int) := by omega
              have HM3 : Hid _ := HM2
              have HNX : Hid _ := hnx'
              clear HM2 hnx'
              by_cases h0 : s.order b = 0
              · have M22 := meet22 w W2 _ _ _ b HM3.out hbn hn (by dsimp only; omega) (by rw [List.length_reverse]; omega) (by rw [List.length_append, ← HMM.out]; simp; omega)
                dsimp only at M22
                have H0 : Hid _ := h0
                rw [h0] at cOb
                clear h0 y1 y2 y3 y4
                go_wp2_with (go_at_call 22; refine M22.mono ?_; rintro r w' ⟨rfl, u1, u2, hm2⟩; have HMF : Hid _ := hm2; clear hm2)
                have hmf := HMF.out
                rw [HNX.out] at hmf
                obtain ⟨s', ht, hrk, hfd, hod⟩ := HT4.out.2.1.stepMeet HFR.out HB.out hbn H0.out HK.out hmf
                go_roundg (rank deps n s')
                case measure => exact Nat.lt_of_lt_of_le hrk HT4.out.1
                case rel => exact ⟨s', by rw [hfd], Nat.le_refl _, ht, fun v hv => hod v (HT4.out.2.2 v hv)⟩
              · have hne : ((s.order b : Nat) : Int) ≠ 0 := by omega
                have H0 : Hid _ := h0
                clear h0 y1 y2 y3 y4
                cases hkb : k b with
                | false =>
                  rw [hkb] at cKb
                  have HKB : Hid _ := hkb
                  clear hkb
                  go_wp2_with fail
                  have hmf := HM3.out
                  rw [HNX.out] at hmf
                  obtain ⟨s', ht, hrk, hfd, hod⟩ := HT4.out.2.1.stepLook HFR.out HB.out H0.out HK.out (low' := s.low) (fun e => by rw [HKB.out] at e; cases e) (fun _ _ => rfl) hmf
                  go_roundg (rank deps n s')
                  case measure => exact Nat.lt_of_lt_of_le hrk HT4.out.1
                  case rel => exact ⟨s', by rw [hfd], Nat.le_refl _, ht, fun v hv => hod v (HT4.out.2.2 v hv)⟩
                | true =>
                  rw [hkb] at cKb
                  have HKB : Hid _ := hkb
                  clear hkb
                  have hfin : ∀ (q : Nat) (wx : World), q = min (s.low a) (s.order b) → wx = ((W2.setCell ⟨w.heap.size + 2, a, none⟩ (.int .i64 (q : Int))).drewN 1) → ∃ s', TI w wx deps n s' ∧ rank deps n s' < rank deps n s ∧ s'.found = s.found ∧ ∀ v, s.order v ≠ 0 → s'.order v ≠ 0 := fun q wx hq hwx => by
                    have hmf := HM3.out
                    rw [HNX.out] at hmf
                    rw [hwx]
                    exact HT4.out.2.1.stepLook HFR.out HB.out H0.out HK.out (low' := upd s.low a q) (fun _ _ => by rw [hq]) (fun e => by rw [HKB.out] at e; cases e) ((hmf.setL a q).drewN 1)
                  have HFin : Hid _ := hfin
                  clear hfin
                  go_upto_region 24 with fail
                  go_region
                  go_wp2_with fail
                  · obtain ⟨s', ht, hrk, hfd, hod⟩ := HFin.out (s.order b) _ (by omega) rfl
                    go_roundg (rank deps n s')
                    case measure => exact Nat.lt_of_lt_of_le hrk HT4.out.1
                    case rel => exact ⟨s', by rw [hfd], Nat.le_refl _, ht, fun v hv => hod v (HT4.out.2.2 v hv)⟩
                  · obtain ⟨s', ht, hrk, hfd, hod⟩ := HFin.out (s.low a) _ (by omega) rfl
                    go_roundg (rank deps n s')
                    case measure => exact Nat.lt_of_lt_of_le hrk HT4.out.1
                    case rel => exact ⟨s', by rw [hfd], Nat.le_refl _, ht, fun v hv => hod v (HT4.out.2.2 v hv)⟩
            · have hnx1 : ¬ (nx : Int) < ((deps a).length : Int) := by omega
              have HNX : Hid _ := hnx
              have f9 := HM.out.free (i := 9) (by omega) 0
              clear hnx hrk
              generalize (deps a).length = dl at hr hlen hnx1
              go_upto_region 18 with fail
              go_quiet (fail)
              obtain ⟨q1, rfl⟩ : ∃ q, q = nq := ⟨_, rfl⟩
              go_upto_region 26 with fail
              have HM2 := (HM.out.drewN q1).popC rfl
              rw [← HMM.out] at HM2
              generalize ((wr.drewN q1).setCell ⟨w.heap.size + 9, 0, none⟩ (.slice (some ⟨g, 0, none⟩) m cap)) = W2 at HM2 ⊢
              clear b1 b3 b5 b7 b8 b9 c1 c2 cf cLa cOa hr f9 hnx1 hlen
              dsimp only at HM2
              obtain ⟨b1, b3, b5, b7, b8, b9⟩ := HM2.boxes
              have cLa := HM2.cL (v := a) hat
              have fL := fun j => HM2.free (i := 2) (by omega) j
              dsimp only at b1 b3 b5 b7 b8 b9 cLa
              have HM3 : Hid _ := HM2
              clear HM2 HM
              go_upto_if 114 with fail
              go_cut [] (fun wx => ∃ p2, Mem w wx ⟨n, s.order, lowB s.low a rest, k, s.comp, s.met, v1, p2⟩ (stackOf s.fr).reverse (frs rest))
              case first =>
                rcases hrest : rest with _ | ⟨⟨ca, cn, csg⟩, r2⟩
                · obtain rfl : m = 0 := by rw [HMM.out, hrest]; rfl
                  have hmf := HM3.out
                  have HR : Hid _ := hrest
                  clear hrest
                  have HMf : Hid _ := hmf
                  clear hmf
                  go_wp2_with fail
                  go_meet
                  have hr := HR.out
                  have hmf := HMf.out
                  rw [hr] at hmf ⊢
                  exact ⟨_, hmf⟩
                · obtain ⟨m', hm'⟩ : ∃ m', m' = (frs r2).length := ⟨_, rfl⟩
                  have hmf := HM3.out
                  rw [hrest, frs_cons] at hmf
                  obtain ⟨g', cap', hv2', c1, c2, cf, hcap', hg10'⟩ := hmf.topC
                  dsimp only at hv2'
                  injection hv2' with e1 e2 e3
                  injection e1 with e1
                  injection e1 with e1
                  rw [← hm'] at e2 c1 c2 hcap'
                  subst e1 e2 e3
                  have hca : ca < n := HT4.out.2.1.inv.bnd ca (HT4.out.2.1.inv.pos ca (by rw [HFR.out, hrest]; simp [stackOf]))
                  have cLc := hmf.cL (v := ca) hca
                  dsimp only at c1 c2 cLc
                  have hc0 : (0 : Int) ≤ (ca : Int) := by omega
                  have hc1 : (ca : Int) < (n : Int) := by omega
                  have HMf : Hid _ := hmf
                  have HR : Hid _ := hrest
                  have HM' : Hid _ := hm'
                  clear hrest hmf hm'
                  have hfin : ∀ (q : Nat) (wx : World), q = min (s.low ca) (s.low a) → wx = ((W2.setCell ⟨w.heap.size + 2, ca, none⟩ (.int .i64 (q : Int))).drewN 1) → ∃ p2, Mem w wx ⟨n, s.order, lowB s.low a rest, k, s.comp, s.met, v1, p2⟩ (stackOf s.fr).reverse (frs rest) := fun q wx hq hwx => by
                    rw [hwx, HR.out, frs_cons]
                    have := (HMf.out.setL ca q).drewN 1
                    rw [hq] at this ⊢
                    exact ⟨_, this⟩
                  have HFin : Hid _ := hfin
                  clear hfin
                  go_upto_region 28 with fail
                  go_region
                  go_wp2_with fail
                  · go_meet
                    exact HFin.out (s.low a) _ (by omega) rfl
                  · go_meet
                    exact HFin.out (s.low ca) _ (by omega) rfl
              case rest =>
                obtain ⟨p2, hcut⟩ := hcut
                clear b1 b3 b5 b7 b8 b9 cLa fL HM3
                clear W2
                obtain ⟨b1, b3, b5, b7, b8, b9⟩ := hcut.boxes
                have cLa := hcut.cL (v := a) hat
                have cOa := hcut.cO (v := a) hat
                have hB := HT4.out.2.1.inv.lowB_at HFR.out
                dsimp only at b1 b3 b5 b7 b8 b9 cLa cOa
                rw [hB] at cLa
                have HM4 : Hid _ := hcut
                clear hcut hB
                by_cases heq : s.low a = s.order a
                · have HEQ : Hid _ := heq
                  have heqi : ((s.low a : Nat) : Int) = ((s.order a : Nat) : Int) := by omega
                  rw [heq] at cLa
                  clear heq heqi
                  go_upto_region 29 with fail
                  go_quiet (fail)
                  obtain ⟨q2, rfl⟩ : ∃ q, q = nq := ⟨_, rfl⟩
                  have hps : PS w (wc.drewN q2) n s a sg rest (lowB s.low a rest) p2 [] sg := ⟨rfl, k, s.comp, v1, by
                    have e := HK.out
                    rw [HFR.out] at e
                    exact e, fun v => by simp, by
                    have e := HM4.out.drewN q2
                    rw [HFR.out] at e
                    exact e⟩
                  have HPS : Hid _ := hps
                  clear hps b1 b3 b5 b7 b8 b9 cLa cOa
                  generalize wc.drewN q2 = W3 at HPS ⊢
                  go_wp2_with fail
                  clear HM4
                  go_loopg [18] sg.length (fun gk s18 wr => ∃ P T, T.length ≤ gk ∧ Hid (PS w wr n s a sg rest (lowB s.low a rest) p2 P T))
                  case atStart => exact ⟨[], sg, Nat.le_refl _, HPS.out⟩
                  case round =>
                    obtain ⟨P, T, hT, HP⟩ := hrel
                    clear HPS
                    clear W3
                    obtain ⟨hseg, k2, comp2, v12, hk2, hc2, hm2⟩ := HP.out
                    rcases T with _ | ⟨t, T⟩
                    · rw [List.nil_append, List.reverse_cons] at hm2
                      obtain ⟨g1, cap1, hv1, d1, hcap1, hg1⟩ := hm2.topS
                      obtain ⟨b1, b3, b5, b7, b8, b9⟩ := hm2.boxes
                      have cK := hm2.cK (v := a) hat
                      have cC := hm2.cC (v := a) hat
                      have f7 := hm2.free (i := 7) (by omega) 0
                      have f4 := fun j => hm2.free (i := 4) (by omega) j
                      have f6 := fun j => hm2.free (i := 6) (by omega) j
                      dsimp only at b1 b3 b5 b7 b8 b9 cK cC hv1
                      subst hv1
                      have hfin := PS.last HT4.out.2.1 (Nat.le_of_not_lt HNX.out) HEQ.out HFR.out hk2 (fun v => by rw [hc2, hseg, List.append_nil]) hm2
                      have hq : (stackOf rest).reverse.length + 1 ≤ n := by rw [HFR.out] at y2; rw [List.length_reverse]; simp only [stackOf, List.length_append, List.length_cons] at y2; omega
                      generalize (stackOf rest).reverse.length = q at hfin b7 d1 hcap1 hq
                      have HFin : Hid _ := hfin
                      clear hfin hm2 hk2 hc2 hseg
                      go_wp2_with fail
                      obtain ⟨s', ht, hrk, hfd, hod⟩ := HFin.out
                      go_roundg (rank deps n s')
                      case measure => exact Nat.lt_of_lt_of_le hrk HT4.out.1
                      case rel => exact ⟨s', by rw [hfd]; rfl, Nat.le_refl _, ht, fun v hv => hod v (HT4.out.2.2 v hv)⟩
                    · rw [List.cons_append, List.reverse_cons] at hm2
                      obtain ⟨g1, cap1, hv1, d1, hcap1, hg1⟩ := hm2.topS
                      obtain ⟨b1, b3, b5, b7, b8, b9⟩ := hm2.boxes
                      have hst : stackOf s.fr = P ++ (t :: (T ++ a :: stackOf rest)) := by rw [HFR.out, hseg]; simp [stackOf]
                      have htn : t < n := HT4.out.2.1.inv.bnd t (HT4.out.2.1.inv.pos t (by rw [hst]; simp))
                      have hta : t ≠ a := fun e => by
                        have hnd := HT4.out.2.1.inv.nodup
                        rw [hst, e] at hnd
                        have := (List.nodup_cons.1 (List.nodup_append.1 hnd).2.1).1
                        simp at this
                      have htai : (t : Int) ≠ (a : Int) := by omega
                      have cK := hm2.cK (v := t) htn
                      have cC := hm2.cC (v := t) htn
                      have f7 := hm2.free (i := 7) (by omega) 0
                      have f4 := fun j => hm2.free (i := 4) (by omega) j
                      have f6 := fun j => hm2.free (i := 6) (by omega) j
                      have ht0 : (0 : Int) ≤ (t : Int) := by omega
                      have ht1 : (t : Int) < (n : Int) := by omega
                      dsimp only at b1 b3 b5 b7 b8 b9 cK cC hv1
                      subst hv1
                      have hfin := PS.step HFR.out HT4.out.2.1.inv hseg hk2 hc2 hm2
                      have hq : (T ++ a :: stackOf rest).reverse.length + 1 ≤ n := by rw [hst] at y2; rw [List.length_reverse]; simp only [List.length_append, List.length_cons] at y2 ⊢; omega
                      generalize (T ++ a :: stackOf rest).reverse.length = q at hfin b7 d1 hcap1 hq
                      have HFin : Hid _ := hfin
                      have hT2 : T.length < gk := by simp only [List.length_cons] at hT; omega
                      clear hfin hm2 hk2 hc2 hseg hst hta
                      go_wp2_with fail
                      go_roundg T.length
                      case measure => exact hT2
                      case rel => exact ⟨_, T, Nat.le_refl _, HFin.out⟩
                · have hne : ((s.low a : Nat) : Int) ≠ ((s.order a : Nat) : Int) := by omega
                  have HNE : Hid _ := heq
                  clear heq
                  go_upto_region 29 with fail
                  go_quiet (fail)
                  obtain ⟨q2, rfl⟩ : ∃ q, q = nq := ⟨_, rfl⟩
                  go_wp2_with fail
                  rcases hrest : rest with _ | ⟨g2, r2⟩
                  · have e := HFR.out
                    rw [hrest] at e
                    exact absurd (HT4.out.2.1.inv.low_top e) HNE.out
                  · have hmf := HM4.out.drewN q2
                    have e := HFR.out
                    rw [hrest] at e hmf
                    obtain ⟨s', ht, hrk, hfd, hod⟩ := HT4.out.2.1.stepMerge e (Nat.le_of_not_lt HNX.out) HNE.out HK.out hmf
                    go_roundg (rank deps n s')
                    case measure => exact Nat.lt_of_lt_of_le hrk HT4.out.1
                    case rel => exact ⟨s', by rw [hfd], Nat.le_refl _, ht, fun v hv => hod v (HT4.out.2.2 v hv)⟩
      · have hne : ((s.order i : Nat) : Int) ≠ 0 := by omega
        have H0 : Hid _ := h0
        clear h0 hk hm y1 y2 y3 y4
        go_wp2_with fail
        go_roundg (n - (i + 1))
        case measure => omega
        case rel => exact ⟨s, i + 1, rfl, by go_num, by omega, by omega, HT2.out.1, HT2.out.2.1, fun v hv => by
          by_cases e : v = i
          · rw [e]; exact H0.out
          · exact HT2.out.2.2 v (by omega)⟩
    · obtain rfl : i = n := by omega
      go_wp2_with fail
      go_ret
      obtain ⟨k, v1, v2, hk, hm⟩ := HT2.out.1.mem
      exact ⟨s.comp, rfl, hm.below, HT2.out.1.inv.comps HT2.out.2.1 HT2.out.2.2, hm.blk 6 (by omega)⟩
end Go.Proofs.Qxb6600314a
