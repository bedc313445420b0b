/-
  WALK for seat b6600280a: (*chunk).withRoom (44).
-/
import Derived.Test.Qxb6600280aChunk
import Derived.Deep.RegionHeld3
import Derived.Deep.DrawnRows
import Derived.Deep.DeepCutAuto
import Derived.Deep.OwnRows
import Derived.Deep.AppendLies
import Derived.Laws.CopyOwn
namespace Go.Proofs.Qxb6600280a
open Go.RowKit
set_option linter.unusedVariables false
attribute [local go_sem ↓] Go.wp_at_zero Go.wp_at_succ

theorem size42d (w : World) (cb o s e d : Nat) (hd : s + d = e) (c1 : w.cell? ⟨cb, o + 1, none⟩ = some (.int .i64 s)) (c2 : w.cell? ⟨cb, o + 2, none⟩ = some (.int .i64 e)) (he : e ≤ 1073741824) :
    Calls Try.prog 42 #[.pointer (some ⟨cb, o, none⟩)] w fun r w' => r = .returned (.int .i64 d) ∧ ∃ n, w' = w.drewN n := by
  refine (size42 w cb o s e c1 c2 (by omega) he).mono ?_
  rintro r w' ⟨rfl, h⟩
  exact ⟨by rw [show e - s = d from by omega], h⟩

theorem elements40d (w : World) (cb o g L s e d : Nat) (hd : s + d = e) (c0 : w.cell? ⟨cb, o, none⟩ = some (.slice (some ⟨g, 0, none⟩) L L)) (c1 : w.cell? ⟨cb, o + 1, none⟩ = some (.int .i64 s)) (c2 : w.cell? ⟨cb, o + 2, none⟩ = some (.int .i64 e))
    (hs : 0 < d) (he : e ≤ L) (hL : L ≤ 1073741824) :
    Calls Try.prog 40 #[.pointer (some ⟨cb, o, none⟩)] w fun r w' => r = .returned (.slice (some ⟨g, s, none⟩) d d) ∧ ∃ n, w' = w.drewN n := by
  refine (elements40 w cb o g L s e c0 c1 c2 (by omega) he hL).mono ?_
  rintro r w' ⟨rfl, h⟩
  exact ⟨by rw [show e - s = d from by omega], h⟩

theorem below_al {w W : World} (h : Below w.heap.size w W) (o : Obj) : Below w.heap.size w (W.alloc o) := h.alloc h.size o

theorem below_set1 {w W : World} (h : Below w.heap.size w W) (i : Nat) (v : Value) : Below w.heap.size w (W.setCell ⟨w.heap.size + 1, i, none⟩ v) := h.setCell (by simp) v

/-- R zero bytes. -/
def zeros (R : Nat) : List Value := (List.replicate R (0 : Int)).map (Value.int .u8)

/-- 'copy' into a row that is known whole, behind whatever draws: the run as an equation, its world a letter of which the row is known, and that nothing else has turned. -/
theorem copy_runs (w : World) (g off dLen dCap : Nat) (ad : Addr) (sLen sCap : Nat) (cur : List Value) (cs : List Value) (hg : w.heap[g]? = some (.cells cur.toArray 5 (0, 0))) (hn : cs.length = Nat.min sLen dLen)
    (hsrc : ∀ j v, cs[j]? = some v → w.cell? (ad.add j) = some v) (hfit : off + cs.length ≤ cur.length) (h1 : ∀ v ∈ cs, v.oneCell' = true) :
    ∃ F : Nat → World, (∀ k, (Builtin.copy_ #[22, 22] 3 #[.slice (some ⟨g, off, none⟩) dLen dCap, .slice (some ad) sLen sCap]).run Try.prog (w.drewN k) = .ok (.int .i64 (cs.length : Nat)) (F k)) ∧
      (∀ k, (F k).heap[g]? = some (.cells (splice cur off cs).toArray 5 (0, 0))) ∧ ∀ k, w.grownBy (F k) (some g) := by
  refine ⟨fun k => (w.drewN k).setRow g (cur.toArray.toList.take off ++ cs ++ cur.toArray.toList.drop (off + cs.length)).toArray, fun k => ?_, fun k => ?_, fun k => ?_⟩
  · exact run_copy_row (P := Try.prog) (w.drewN k) 22 22 3 5 g off dLen dCap ad sLen sCap cur.toArray 5 cs Try.underlying22 (by kernel_rfl) hg hn hsrc (by simpa using hfit) h1
  · have := setRow_heap (w.drewN k) g cur.toArray (cur.toArray.toList.take off ++ cs ++ cur.toArray.toList.drop (off + cs.length)).toArray 5 (0, 0) hg
    rw [this]
    simp [splice]
  · exact ⟨rfl, rfl, rfl, by simp [World.setRow, World.drewN], fun j _ hne => setRow_other (w.drewN k) g j _ (fun e => hne (by rw [e]))⟩

theorem made_list (R : Nat) : (madeCells #[.int .u8 0] R).toList = List.replicate R (.int .u8 0) := by
  apply List.ext_getElem?
  intro i
  by_cases h : i < R
  · simp [madeCells, h, Nat.mod_one]
  · simp [madeCells, h]
theorem splice_made {d : Nat} (bs : List Int) (z : Nat) (h : bs.length = d) : (splice (madeCells #[.int .u8 0] (d + z)).toList 0 (bs.map (Value.int .u8))).toArray = ((bs ++ List.replicate z 0).map (Value.int .u8)).toArray := by
  rw [made_list]
  simp [splice, h]

/-- The chunk in the making. -/
structure Mv (w wx : World) (mb hb R : Nat) (cnt : Int) : Prop where
  mbN : w.heap.size < mb
  hbN : w.heap.size < hb
  ne : mb ≠ hb
  c0 : wx.cell? ⟨mb, 0, none⟩ = some (.slice (some ⟨hb, 0, none⟩) R R)
  c1 : wx.cell? ⟨mb, 1, none⟩ = some (.int .i64 0)
  c2 : wx.cell? ⟨mb, 2, none⟩ = some (.int .i64 0)
  c3 : wx.cell? ⟨mb, 3, none⟩ = some (.int .i64 cnt)
  c4 : wx.cell? ⟨mb, 4, none⟩ = some (.bool true)
  f2 : wx.frozen? ⟨mb, 2, none⟩ = false
  row : wx.heap[hb]? = some (.cells (madeCells #[.int .u8 0] R) 5 (0, 0))
  res : wx.heap[w.heap.size]? = some (.cells #[.slice none 0 0, .int .i64 0, .int .i64 0, .int .i64 0, .bool false] 59 (0, 0))
  below : Below w.heap.size w wx

theorem Mv.of {w W : World} {mb hb R : Nat} {cnt : Int} (h1 : w.heap.size < mb) (h2 : w.heap.size < hb) (h3 : mb ≠ hb)
    (hm : W.heap[mb]? = some (.cells #[.slice (some ⟨hb, 0, none⟩) R R, .int .i64 0, .int .i64 0, .int .i64 cnt, .bool true] 59 (0, 0))) (hh : W.heap[hb]? = some (.cells (madeCells #[.int .u8 0] R) 5 (0, 0)))
    (hr : W.heap[w.heap.size]? = some (.cells #[.slice none 0 0, .int .i64 0, .int .i64 0, .int .i64 0, .bool false] 59 (0, 0))) (hB : Below w.heap.size w W) : Mv w W mb hb R cnt := by
  refine ⟨h1, h2, h3, ?_, ?_, ?_, ?_, ?_, ?_, hh, hr, hB⟩ <;> simp [World.cell?, World.frozen?, hm]

theorem heap_setCell_same {w : World} {b i : Nat} {c : Array Value} {t : TypeId} {fr : Nat × Nat} (h : w.heap[b]? = some (.cells c t fr)) (v : Value) : (w.setCell ⟨b, i, none⟩ v).heap[b]? = some (.cells (c.setIfInBounds i v) t fr) := by
  simp [World.setCell, Array.getElem?_modify, h]

theorem heap_alloc_at {W : World} {o : Obj} {n : Nat} (h : W.heap.size = n) : (W.alloc o).heap[n]? = some o := by
  subst h; exact heap_alloc_new W o

theorem heap_a (w : World) (a b c : Obj) (k : Nat) : ((((w.alloc a).drewN k).alloc b).alloc c).heap = ((w.heap.push a).push b).push c := rfl

theorem mv_a (w : World) (k R : Nat) (cnt : Int) :
    Mv w ((((w.alloc (.cells #[.slice none 0 0, .int .i64 0, .int .i64 0, .int .i64 0, .bool false] 59)).drewN k).alloc (.cells (madeCells #[.int .u8 0] R) 5)).alloc (.cells #[.slice (some ⟨w.heap.size + 1, 0, none⟩) R R, .int .i64 0, .int .i64 0, .int .i64 cnt, .bool true] 59))
      (w.heap.size + 1 + 1) (w.heap.size + 1) R cnt := by
  refine Mv.of (by omega) (by omega) (by omega) ?_ ?_ ?_ (below_al (below_al (below_drewN (below_al (Below.refl _ _) _) _) _) _)
  all_goals (rw [heap_a]; simp only [Array.getElem?_push, Array.size_push]; repeat (first | rw [if_neg (by omega)] | rw [if_pos (by first | trivial | omega)]))

theorem mv_b (w : World) (k R : Nat) (cnt : Int) :
    Mv w ((((w.alloc (.cells #[.slice none 0 0, .int .i64 0, .int .i64 0, .int .i64 0, .bool false] 59)).drewN k).alloc (.cells #[.slice (some ⟨w.heap.size + 1 + 1, 0, none⟩) R R, .int .i64 0, .int .i64 0, .int .i64 cnt, .bool true] 59)).alloc (.cells (madeCells #[.int .u8 0] R) 5))
      (w.heap.size + 1) (w.heap.size + 1 + 1) R cnt := by
  refine Mv.of (by omega) (by omega) (by omega) ?_ ?_ ?_ (below_al (below_al (below_drewN (below_al (Below.refl _ _) _) _) _) _)
  all_goals (rw [heap_a]; simp only [Array.getElem?_push, Array.size_push]; repeat (first | rw [if_neg (by omega)] | rw [if_pos (by first | trivial | omega)]))

theorem mv_c (w : World) (k R : Nat) (cnt : Int) :
    Mv w ((((((((w.alloc (.cells #[.slice none 0 0, .int .i64 0, .int .i64 0, .int .i64 0, .bool false] 59)).alloc (.cells #[.slice none 0 0, .int .i64 0, .int .i64 0, .int .i64 0, .bool false] 59)).drewN k).setCell ⟨w.heap.size + 1, 0, none⟩ (.slice (some ⟨w.heap.size + 1 + 1, 0, none⟩) R R)).setCell ⟨w.heap.size + 1, 1, none⟩ (.int .i64 0)).setCell ⟨w.heap.size + 1, 2, none⟩ (.int .i64 0)).setCell ⟨w.heap.size + 1, 3, none⟩ (.int .i64 cnt)).setCell ⟨w.heap.size + 1, 4, none⟩ (.bool true) |>.alloc (.cells (madeCells #[.int .u8 0] R) 5))
      (w.heap.size + 1) (w.heap.size + 1 + 1) R cnt := by
  have h1 : (((w.alloc (.cells #[.slice none 0 0, .int .i64 0, .int .i64 0, .int .i64 0, .bool false] 59)).alloc (.cells #[.slice none 0 0, .int .i64 0, .int .i64 0, .int .i64 0, .bool false] 59)).drewN k).heap[w.heap.size + 1]? = some (.cells #[.slice none 0 0, .int .i64 0, .int .i64 0, .int .i64 0, .bool false] 59 (0, 0)) := by
    show ((w.heap.push _).push _)[w.heap.size + 1]? = _
    simp only [Array.getElem?_push, Array.size_push]; simp
  have h0 : (((w.alloc (.cells #[.slice none 0 0, .int .i64 0, .int .i64 0, .int .i64 0, .bool false] 59)).alloc (.cells #[.slice none 0 0, .int .i64 0, .int .i64 0, .int .i64 0, .bool false] 59)).drewN k).heap[w.heap.size]? = some (.cells #[.slice none 0 0, .int .i64 0, .int .i64 0, .int .i64 0, .bool false] 59 (0, 0)) := by
    show ((w.heap.push _).push _)[w.heap.size]? = _
    simp only [Array.getElem?_push, Array.size_push]; repeat (first | rw [if_neg (by omega)] | rw [if_pos (by first | trivial | omega)])
  have hsz : (((w.alloc (.cells #[.slice none 0 0, .int .i64 0, .int .i64 0, .int .i64 0, .bool false] 59)).alloc (.cells #[.slice none 0 0, .int .i64 0, .int .i64 0, .int .i64 0, .bool false] 59)).drewN k).heap.size = w.heap.size + 1 + 1 := by
    show ((w.heap.push _).push _).size = _
    simp
  have hB : Below w.heap.size w (((w.alloc (.cells #[.slice none 0 0, .int .i64 0, .int .i64 0, .int .i64 0, .bool false] 59)).alloc (.cells #[.slice none 0 0, .int .i64 0, .int .i64 0, .int .i64 0, .bool false] 59)).drewN k) := below_drewN (below_al (below_al (Below.refl _ _) _) _) _
  revert h1 h0 hsz hB
  generalize (((w.alloc (.cells #[.slice none 0 0, .int .i64 0, .int .i64 0, .int .i64 0, .bool false] 59)).alloc (.cells #[.slice none 0 0, .int .i64 0, .int .i64 0, .int .i64 0, .bool false] 59)).drewN k) = X
  intro h1 h0 hsz hB
  have hs : ∀ (Y : World) (i : Nat) (v : Value), (Y.setCell ⟨w.heap.size + 1, i, none⟩ v).heap.size = Y.heap.size := fun Y i v => by simp [World.setCell]
  have g1 := heap_setCell_same (heap_setCell_same (heap_setCell_same (heap_setCell_same (heap_setCell_same (i := 0) h1 (.slice (some ⟨w.heap.size + 1 + 1, 0, none⟩) R R)) (i := 1) (.int .i64 0)) (i := 2) (.int .i64 0)) (i := 3) (.int .i64 cnt)) (i := 4) (.bool true)
  refine Mv.of (by omega) (by omega) (by omega) ?_ ?_ ?_ (below_al (below_set1 (below_set1 (below_set1 (below_set1 (below_set1 hB _ _) _ _) _ _) _ _) _ _) _)
  · rw [Below.heap_alloc _ _ _ (by simp only [hs, hsz]; omega), g1]
    simp
  · exact heap_alloc_at (by simp only [hs, hsz])
  · rw [Below.heap_alloc _ _ _ (by simp only [hs, hsz]; omega), Below.heap_setCell _ _ _ _ (by simp), Below.heap_setCell _ _ _ _ (by simp), Below.heap_setCell _ _ _ _ (by simp), Below.heap_setCell _ _ _ _ (by simp), Below.heap_setCell _ _ _ _ (by simp)]
    exact h0

set_option maxRecDepth 100000 in
set_option maxHeartbeats 1000000 in
theorem room44 (w : World) (cb o g L s e d z : Nat) (cnt : Int) (hd : s + d = e) (c0 : w.cell? ⟨cb, o, none⟩ = some (.slice (some ⟨g, 0, none⟩) L L)) (c1 : w.cell? ⟨cb, o + 1, none⟩ = some (.int .i64 s)) (c2 : w.cell? ⟨cb, o + 2, none⟩ = some (.int .i64 e)) (c3 : w.cell? ⟨cb, o + 3, none⟩ = some (.int .i64 cnt))
    (hs : 0 < d) (he : e ≤ L) (hL : L ≤ 1048576) (hz : z ≤ 1048576) (bs : List Int) (hbl : bs.length = d) (hb : ∀ j v, (bs.map (Value.int .u8))[j]? = some v → w.cell? ((⟨g, s, none⟩ : Addr).add j) = some v) :
    Calls Try.prog 44 #[.pointer (some ⟨cb, o, none⟩), .int .i64 z, .bool false] w fun r w' => ∃ h, r = .returned (.agg #[.slice (some ⟨h, 0, none⟩) (d + z) (d + z), .int .i64 0, .int .i64 d, .int .i64 cnt, .bool true]) ∧ w.heap.size ≤ h ∧
      (∃ bs' : List Int, bs'.length = d + z ∧ w'.heap[h]? = some (.cells (bs'.map (Value.int .u8)).toArray 5 (0, 0))) ∧ Below w.heap.size w w' := by
  have hcb : cb < w.heap.size := World.block_lt_of_cell? _ _ c0
  have hmk : ∀ W, (Instr.makeSlice 22 (.int .i64 ((d : Int) + (z : Int))) (.int .i64 ((d : Int) + (z : Int)))).run Try.prog W = .ok (.slice (some ⟨W.heap.size, 0, none⟩) (d + z) (d + z)) (W.alloc (.cells (madeCells #[.int .u8 0] (d + z)) 5)) := fun W => by
    have := run_make_row' (P := Try.prog) 22 5 (.int .u8 0) 1 Try.underlying22 Try.info5 rfl .i64 .i64 (d + z) (by omega) (by omega) W
    rwa [Int.natCast_add] at this
  have hwr : IntKind.i64.wrap ((d : Int) + (z : Int)) = (d : Int) + (z : Int) := by rw [IntKind.wrap_i64]; omega
  go_enter Try.func44, Try.ntmps44
  go_upto_region 1 with fail
  go_cut [7] (fun v wx => ∃ mb hb, v = .pointer (some ⟨mb, 0, none⟩) ∧ Mv w wx mb hb (d + z) cnt)
  case first =>
    go_region_held3 (fun w' => w'.cell? ⟨cb, o + 1, none⟩ = some (.int .i64 s) ∧ w'.cell? ⟨cb, o + 2, none⟩ = some (.int .i64 e) ∧ w'.cell? ⟨cb, o + 3, none⟩ = some (.int .i64 cnt)) (first | (refine ⟨cell_later ?_ c1, cell_later ?_ c2, cell_later ?_ c3⟩ <;> (with_reducible repeat (first | exact Below.refl _ _ | refine Below.drew ?_ | refine below_drewN ?_ _ | refine below_al ?_ _ | refine below_set1 ?_ _ _))) | (go_split_ands; refine ⟨cell_later ?_ c1, cell_later ?_ c2, cell_later ?_ c3⟩ <;> (with_reducible repeat (first | exact Below.refl _ _ | refine Below.drew ?_ | refine below_drewN ?_ _ | refine below_al ?_ _ | refine below_set1 ?_ _ _))) | go_keep)
      (first | (go_at_call 42; refine (size42d _ cb o s e d hd (cell_later ?_ c1) (cell_later ?_ c2) (by omega)).mono ?_; (with_reducible repeat (first | exact Below.refl _ _ | refine Below.drew ?_ | refine below_drewN ?_ _ | refine below_al ?_ _ | refine below_set1 ?_ _ _)); (with_reducible repeat (first | exact Below.refl _ _ | refine Below.drew ?_ | refine below_drewN ?_ _ | refine below_al ?_ _ | refine below_set1 ?_ _ _)); rintro r w' ⟨rfl, n, rfl⟩))
    all_goals
      go_wp2_with fail
      go_meet
    all_goals (first | (refine ⟨w.heap.size + 1 + 1, w.heap.size + 1, rfl, ?_⟩; with_reducible exact mv_a w _ (d + z) cnt) | (refine ⟨w.heap.size + 1, w.heap.size + 1 + 1, rfl, ?_⟩; with_reducible exact mv_b w _ (d + z) cnt) | (refine ⟨w.heap.size + 1, w.heap.size + 1 + 1, rfl, ?_⟩; with_reducible exact mv_c w _ (d + z) cnt))
  case rest =>
    obtain ⟨mb, hb', rfl, M⟩ := hcut
    clear hmk hwr
    obtain ⟨R, hRe⟩ : ∃ R, R = d + z := ⟨_, rfl⟩
    rw [← hRe] at M
    have HRe : Hid (R = d + z) := hRe
    have hR0 : (0 : Int) ≤ (R : Int) := by omega
    have hR1 : ¬ R = 0 := by omega
    have hR2 : R ≤ 4194304 := by omega
    have hR3 : d ≤ R := by omega
    clear hRe
    have m0 := M.c0
    have m1 := M.c1
    have m2 := M.c2
    have mf := M.f2
    have k0 := cell_later M.below c0
    have k1 := cell_later M.below c1
    have k2 := cell_later M.below c2
    have hmbN := M.mbN
    have hhbN := M.hbN
    have hne := M.ne
    have HM : Hid _ := M
    clear M c0 c1 c2 c3
    have lmb : mb < wc.heap.size := World.block_lt_of_cell? _ _ m0
    have lcb : cb < wc.heap.size := World.block_lt_of_cell? _ _ k0
    have hsz : (Try.prog.info? 5).map (·.size) = some 1 := by kernel_rfl
    have hrow : wc.heap[hb']? = some (.cells (madeCells #[.int .u8 0] R).toList.toArray 5 (0, 0)) := by simpa using HM.out.row
    have hsrc : ∀ j v, (bs.map (Value.int .u8))[j]? = some v → wc.cell? ((⟨g, s, none⟩ : Addr).add j) = some v := fun j v hv => cell_later HM.out.below (hb j v hv)
    obtain ⟨F, hF1, hF2, hF3⟩ := copy_runs wc hb' 0 R R ⟨g, s, none⟩ d d (madeCells #[.int .u8 0] R).toList (bs.map (Value.int .u8)) hrow (by rw [List.length_map, hbl]; exact (Nat.min_eq_left hR3).symm) hsrc (by rw [List.length_map, hbl, Array.length_toList, size_madeCells]; omega) (ints_oneCell .u8 bs)
    rw [List.length_map, hbl] at hF1
    have HL : Hid (bs.length = d) := hbl
    have HF2 : Hid _ := hF2
    have HF3 : Hid _ := hF3
    clear hrow hsrc hb hbl hF2 hF3
    have hneS : some mb ≠ some hb' := by simpa using hne
    have hneC : some cb ≠ some hb' := by simp; omega
    have F0 : ∀ k, (F k).cell? ⟨mb, 0, none⟩ = some (.slice (some ⟨hb', 0, none⟩) R R) := fun k => ((HF3.out k).cell_far _ lmb hneS).trans m0
    have F1 : ∀ k, (F k).cell? ⟨mb, 1, none⟩ = some (.int .i64 0) := fun k => ((HF3.out k).cell_far _ lmb hneS).trans m1
    have F2 : ∀ k, (F k).cell? ⟨mb, 2, none⟩ = some (.int .i64 0) := fun k => ((HF3.out k).cell_far _ lmb hneS).trans m2
    have Ff : ∀ k, (F k).frozen? ⟨mb, 2, none⟩ = false := fun k => ((HF3.out k).frozen_far _ lmb hneS).trans mf
    have F3 : ∀ k, (F k).cell? ⟨cb, o, none⟩ = some (.slice (some ⟨g, 0, none⟩) L L) := fun k => ((HF3.out k).cell_far _ lcb hneC).trans k0
    have F4 : ∀ k, (F k).cell? ⟨cb, o + 1, none⟩ = some (.int .i64 s) := fun k => ((HF3.out k).cell_far _ lcb hneC).trans k1
    have F5 : ∀ k, (F k).cell? ⟨cb, o + 2, none⟩ = some (.int .i64 e) := fun k => ((HF3.out k).cell_far _ lcb hneC).trans k2
    have hcm : ¬ mb = cb := by omega
    have G0 : ∀ k v, ((F k).setCell ⟨mb, 2, none⟩ v).cell? ⟨mb, 0, none⟩ = some (.slice (some ⟨hb', 0, none⟩) R R) := fun k v => (World.cell?_setCell_other _ _ _ _ (by simp)).trans (F0 k)
    have G1 : ∀ k v, ((F k).setCell ⟨mb, 2, none⟩ v).cell? ⟨mb, 1, none⟩ = some (.int .i64 0) := fun k v => (World.cell?_setCell_other _ _ _ _ (by simp)).trans (F1 k)
    have hwd : IntKind.i64.wrap (d : Int) = (d : Int) := by rw [IntKind.wrap_i64]; omega
    go_upto_region 4 with fail
    go_region_held3 (fun w' => w'.cell? ⟨mb, 0, none⟩ = some (.slice (some ⟨hb', 0, none⟩) R R) ∧ w'.cell? ⟨mb, 1, none⟩ = some (.int .i64 0) ∧ w'.cell? ⟨cb, o, none⟩ = some (.slice (some ⟨g, 0, none⟩) L L) ∧ w'.cell? ⟨cb, o + 1, none⟩ = some (.int .i64 s) ∧ w'.cell? ⟨cb, o + 2, none⟩ = some (.int .i64 e))
      (go_keep)
      (first | (go_at_call 40; refine (elements40d _ cb o g L s e d hd ?_ ?_ ?_ hs he (by omega)).mono ?_; (simp [*]); (simp [*]); (simp [*]); rintro r w' ⟨rfl, n, rfl⟩))
    have lN : w.heap.size < wc.heap.size := by omega
    have hneN : some w.heap.size ≠ some hb' := by simp; omega
    have G3 : ∀ k v, ((F k).setCell ⟨mb, 2, none⟩ v).cell? ⟨mb, 3, none⟩ = some (.int .i64 cnt) := fun k v => (World.cell?_setCell_other _ _ _ _ (by simp)).trans (((HF3.out k).cell_far _ lmb hneS).trans HM.out.c3)
    have G4 : ∀ k v, ((F k).setCell ⟨mb, 2, none⟩ v).cell? ⟨mb, 4, none⟩ = some (.bool true) := fun k v => (World.cell?_setCell_other _ _ _ _ (by simp)).trans (((HF3.out k).cell_far _ lmb hneS).trans HM.out.c4)
    have G2 : ∀ k v, ((F k).setCell ⟨mb, 2, none⟩ v).cell? ⟨mb, 2, none⟩ = some v := fun k v => World.cell?_setCell_same _ _ _ (F2 k)
    have HW : ∀ k v, ((F k).setCell ⟨mb, 2, none⟩ v).heap[w.heap.size]? = some (.cells #[.slice none 0 0, .int .i64 0, .int .i64 0, .int .i64 0, .bool false] 59 (0, 0)) := fun k v => by
      rw [Below.heap_setCell _ _ _ _ (by simp; omega), (HF3.out k).block _ lN hneN]
      exact HM.out.res
    have HB : ∀ k v, Below w.heap.size w ((F k).setCell ⟨mb, 2, none⟩ v) := fun k v => (HM.out.below.grown (HF3.out k) HM.out.below.size (by intro j hj; cases hj; omega)).setCell (by simp; omega) v
    have HH : ∀ k v, ((F k).setCell ⟨mb, 2, none⟩ v).heap[hb']? = some (.cells (splice (madeCells #[.int .u8 0] R).toList 0 (bs.map (Value.int .u8))).toArray 5 (0, 0)) := fun k v => by
      rw [Below.heap_setCell _ _ _ _ (by simp; omega)]
      exact HF2.out k
    obtain ⟨Y, hY⟩ : ∃ Y, Y = (F (1 + n)).setCell ⟨mb, 2, none⟩ (.int .i64 d) := ⟨_, rfl⟩
    have y0 : Y.cell? ⟨mb, 0, none⟩ = some (.slice (some ⟨hb', 0, none⟩) R R) := by rw [hY]; exact G0 _ _
    have y1 : Y.cell? ⟨mb, 1, none⟩ = some (.int .i64 0) := by rw [hY]; exact G1 _ _
    have y2 : Y.cell? ⟨mb, 2, none⟩ = some (.int .i64 d) := by rw [hY]; exact G2 _ _
    have y3 : Y.cell? ⟨mb, 3, none⟩ = some (.int .i64 cnt) := by rw [hY]; exact G3 _ _
    have y4 : Y.cell? ⟨mb, 4, none⟩ = some (.bool true) := by rw [hY]; exact G4 _ _
    have yr : Y.heap[w.heap.size]? = some (.cells #[.slice none 0 0, .int .i64 0, .int .i64 0, .int .i64 0, .bool false] 59 (0, 0)) := by rw [hY]; exact HW _ _
    have yb : Below w.heap.size w Y := by rw [hY]; exact HB _ _
    have yh := HH (1 + n) (.int .i64 d)
    rw [← hY] at yh ⊢
    have r0 : Y.cell? ⟨w.heap.size, 0, none⟩ = some (.slice none 0 0) := by simp [World.cell?, yr]
    have r1 : Y.cell? ⟨w.heap.size, 1, none⟩ = some (.int .i64 0) := by simp [World.cell?, yr]
    have r2 : Y.cell? ⟨w.heap.size, 2, none⟩ = some (.int .i64 0) := by simp [World.cell?, yr]
    have r3 : Y.cell? ⟨w.heap.size, 3, none⟩ = some (.int .i64 0) := by simp [World.cell?, yr]
    have r4 : Y.cell? ⟨w.heap.size, 4, none⟩ = some (.bool false) := by simp [World.cell?, yr]
    have rf : ∀ i, Y.frozen? ⟨w.heap.size, i, none⟩ = false := fun i => by simp [World.frozen?, yr]
    have HY : Hid _ := yh
    have HYr : Hid _ := yr
    clear hY yh yr F0 F1 F2 Ff F3 F4 F5 G0 G1 G2 G3 G4 HW HB HH hF1 m0 m1 m2 mf k0 k1 k2
    go_wp2
    have g1 := heap_setCell_same (heap_setCell_same (heap_setCell_same (heap_setCell_same (heap_setCell_same (i := 0) HYr.out (.slice (some ⟨hb', 0, none⟩) R R)) (i := 1) (.int .i64 0)) (i := 2) (.int .i64 d)) (i := 3) (.int .i64 cnt)) (i := 4) (.bool true)
    have g2 : (((((Y.setCell ⟨w.heap.size, 0, none⟩ (.slice (some ⟨hb', 0, none⟩) R R)).setCell ⟨w.heap.size, 1, none⟩ (.int .i64 0)).setCell ⟨w.heap.size, 2, none⟩ (.int .i64 d)).setCell ⟨w.heap.size, 3, none⟩ (.int .i64 cnt)).setCell ⟨w.heap.size, 4, none⟩ (.bool true)).heap[hb']? = Y.heap[hb']? := by
      rw [Below.heap_setCell _ _ _ _ (by simp; omega), Below.heap_setCell _ _ _ _ (by simp; omega), Below.heap_setCell _ _ _ _ (by simp; omega), Below.heap_setCell _ _ _ _ (by simp; omega), Below.heap_setCell _ _ _ _ (by simp; omega)]
    have g3 : Below w.heap.size w (((((Y.setCell ⟨w.heap.size, 0, none⟩ (.slice (some ⟨hb', 0, none⟩) R R)).setCell ⟨w.heap.size, 1, none⟩ (.int .i64 0)).setCell ⟨w.heap.size, 2, none⟩ (.int .i64 d)).setCell ⟨w.heap.size, 3, none⟩ (.int .i64 cnt)).setCell ⟨w.heap.size, 4, none⟩ (.bool true)) :=
      ((((yb.setCell (Nat.le_refl _) _).setCell (Nat.le_refl _) _).setCell (Nat.le_refl _) _).setCell (Nat.le_refl _) _).setCell (Nat.le_refl _) _
    revert g1 g2 g3
    generalize (((((Y.setCell ⟨w.heap.size, 0, none⟩ (.slice (some ⟨hb', 0, none⟩) R R)).setCell ⟨w.heap.size, 1, none⟩ (.int .i64 0)).setCell ⟨w.heap.size, 2, none⟩ (.int .i64 d)).setCell ⟨w.heap.size, 3, none⟩ (.int .i64 cnt)).setCell ⟨w.heap.size, 4, none⟩ (.bool true)) = V
    intro g1 g2 g3
    have v0 : V.cell? ⟨w.heap.size, 0, none⟩ = some (.slice (some ⟨hb', 0, none⟩) R R) := by simp [World.cell?, g1]
    have v1 : V.cell? ⟨w.heap.size, 1, none⟩ = some (.int .i64 0) := by simp [World.cell?, g1]
    have v2 : V.cell? ⟨w.heap.size, 2, none⟩ = some (.int .i64 d) := by simp [World.cell?, g1]
    have v3 : V.cell? ⟨w.heap.size, 3, none⟩ = some (.int .i64 cnt) := by simp [World.cell?, g1]
    have v4 : V.cell? ⟨w.heap.size, 4, none⟩ = some (.bool true) := by simp [World.cell?, g1]
    refine bodyPost_ret (v := .agg #[.slice (some ⟨hb', 0, none⟩) R R, .int .i64 0, .int .i64 d, .int .i64 cnt, .bool true]) (by simp [results, Try.results44, go_sem, v0, v1, v2, v3, v4]) rfl ?_
    refine ⟨hb', by rw [HRe.out], by omega, ⟨bs ++ List.replicate z 0, by simp [HL.out], ?_⟩, g3⟩
    rw [g2, HY.out, HRe.out]
    congr 2
    rw [splice_made bs z (by rw [HL.out])]
end Go.Proofs.Qxb6600280a
