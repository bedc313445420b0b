/-
  WALK for seat b6600058a: ZZNewGroup (28).
-/
import Derived.Test.Qxb6600058aMarks
import Derived.Test.Qxb6600058aRemoved
import Derived.Deep.RegionHeld3
import Derived.Deep.AppendLies
import Derived.Deep.DrawnRows
import Derived.Deep.RegionLaw
namespace Go.Proofs.Qxb6600058a
open Go.RowKit
attribute [local go_sem ↓] Go.wp_at_zero Go.wp_at_succ

theorem Try.info75 : (Try.prog.info? 75).map (fun i => (i.zero, i.size, i.bytes)) = some (some (.agg #[.string ByteArray.empty, .bool false]), 2, 24) := by kernel_rfl

/-- The cells of exits. -/
def flat : List (ByteArray × Bool) → List Value
  | [] => []
  | x :: r => .string x.1 :: .bool x.2 :: flat r
theorem flat_snoc (l : List (ByteArray × Bool)) (x : ByteArray × Bool) : flat (l ++ [x]) = flat l ++ [.string x.1, .bool x.2] := by
  induction l with
  | nil => rfl
  | cons y r ih => simp [flat, ih]
theorem flat_at : ∀ (l : List (ByteArray × Bool)) (k : Nat), k < l.length → (flat l)[k * 2]? = some (.string (l.getD k (ByteArray.empty, false)).1) ∧ (flat l)[k * 2 + 1]? = some (.bool (l.getD k (ByteArray.empty, false)).2)
  | [], k, h => by simp at h
  | x :: r, 0, _ => by simp [flat]
  | x :: r, k + 1, h => by
    have := flat_at r k (by simpa using h)
    rw [show (k + 1) * 2 = k * 2 + 1 + 1 from by omega]
    simpa [flat] using this

/-- The cells of a group whose maps lie from block N on. -/
def grpCells (nm : ByteArray) (mv rv : Value) (N : Nat) : Array Value :=
  #[.string nm, .int .u64 1, mv, rv, .map (some N), .int .u64 0, .int .u64 0, .map (some (N + 1)), .map (some (N + 2)), .map (some (N + 3)), .map (some (N + 4))]

/-- A GROUP IN THE MAKING. -/
structure Built (w wr : World) (nm : ByteArray) (mv rv : Value) (n : Nat) (ex : List (ByteArray × Bool)) (J U E T : List ByteArray) : Prop where
  blk : wr.heap[w.heap.size + 5]? = some (.cells (grpCells nm mv rv w.heap.size) 67 (0, 0))
  own : wr.ownsRow (w.heap.size + 6) 75 2 rv n (flat ex)
  j : wr.ownsMap Try.prog 9 (plainElem Try.prog 22) w.heap.size J.length (D (.lit (.int .u64 1)) J)
  u : wr.ownsMap Try.prog 9 (plainElem Try.prog 4) (w.heap.size + 2) U.length (D (.lit (.bool true)) U)
  e : wr.ownsMap Try.prog 9 (plainElem Try.prog 4) (w.heap.size + 3) E.length (D (.lit (.bool true)) E)
  t : wr.ownsMap Try.prog 9 (plainElem Try.prog 4) (w.heap.size + 4) T.length (D (.lit (.bool true)) T)
  below : Below w.heap.size w wr

theorem Built.size {w wr : World} {nm : ByteArray} {mv rv : Value} {n : Nat} {ex : List (ByteArray × Bool)} {J U E T : List ByteArray} (h : Built w wr nm mv rv n ex J U E T) : w.heap.size + 6 ≤ wr.heap.size := by
  have := (Array.getElem?_eq_some_iff.1 h.blk).1
  omega

theorem Built.cell {w wr : World} {nm : ByteArray} {mv rv : Value} {n : Nat} {ex : List (ByteArray × Bool)} {J U E T : List ByteArray} (h : Built w wr nm mv rv n ex J U E T) (i : Nat) :
    wr.cell? ⟨w.heap.size + 5, i, none⟩ = (grpCells nm mv rv w.heap.size)[i]? := by
  simp [World.cell?, h.blk]
theorem Built.free {w wr : World} {nm : ByteArray} {mv rv : Value} {n : Nat} {ex : List (ByteArray × Bool)} {J U E T : List ByteArray} (h : Built w wr nm mv rv n ex J U E T) (i : Nat) :
    wr.frozen? ⟨w.heap.size + 5, i, none⟩ = false := by
  simp [World.frozen?, h.blk]

theorem heap_allocs (w : World) (a b c d e f : Obj) : ((((((w.alloc a).alloc b).alloc c).alloc d).alloc e).alloc f).heap = (((((w.heap.push a).push b).push c).push d).push e).push f := rfl

theorem owns_empty {wr : World} {b : Nat} (R : Value → Option (DataW Unit × List MemPlace)) (u : DataW Unit) (h : wr.heap[b]? = some (.map #[] 0)) : wr.ownsMap Try.prog 9 R b ([] : List ByteArray).length (D u []) :=
  ⟨#[], 0, h, ⟨by simp, MapKept.stamped_empty 0, by simp⟩, Nat.le_refl _, rfl⟩

theorem Built.start (w : World) (nm : ByteArray) (mv : Value) :
    Built w ((((((w.alloc (.map #[] 0)).alloc (.map #[] 0)).alloc (.map #[] 0)).alloc (.map #[] 0)).alloc (.map #[] 0)).alloc (.cells (grpCells nm mv (.slice none 0 0) w.heap.size) 67)) nm mv (.slice none 0 0) 0 [] [] [] [] [] := by
  refine ⟨?_, World.ownsRow_nil _ _ _ _, owns_empty _ _ ?_, owns_empty _ _ ?_, owns_empty _ _ ?_, owns_empty _ _ ?_, ?_⟩
  · rw [heap_allocs]; simp only [Array.getElem?_push, Array.size_push]; repeat (first | rw [if_neg (by omega)] | rw [if_pos (by first | trivial | omega)])
  · rw [heap_allocs]; simp only [Array.getElem?_push, Array.size_push]; repeat (first | rw [if_neg (by omega)] | rw [if_pos (by first | trivial | omega)])
  · rw [heap_allocs]; simp only [Array.getElem?_push, Array.size_push]; repeat (first | rw [if_neg (by omega)] | rw [if_pos (by first | trivial | omega)])
  · rw [heap_allocs]; simp only [Array.getElem?_push, Array.size_push]; repeat (first | rw [if_neg (by omega)] | rw [if_pos (by first | trivial | omega)])
  · rw [heap_allocs]; simp only [Array.getElem?_push, Array.size_push]; repeat (first | rw [if_neg (by omega)] | rw [if_pos (by first | trivial | omega)])
  · exact ((((((Below.refl _ _).alloc (Nat.le_refl _) _).alloc (by simp) _).alloc (by simp; omega) _).alloc (by simp; omega) _).alloc (by simp; omega) _).alloc (by simp; omega) _

/-- The removed list has grown by one exit, and is stored back. -/
theorem Built.push {w wr w1 : World} {nm : ByteArray} {mv : Value} {a : Option Addr} {k c g cap : Nat} {ex : List (ByteArray × Bool)} {x : ByteArray × Bool} {J U E T : List ByteArray} (h : Built w wr nm mv (.slice a k c) k ex J U E T)
    (ho : w1.ownsRow (w.heap.size + 6) 75 2 (.slice (some ⟨g, 0, none⟩) (k + 1) cap) (k + 1) (flat ex ++ [.string x.1, .bool x.2])) {o : Obj} (hg : (wr.alloc o).drew.grownBy w1 (Value.slice a k c).ownBlock) :
    Built w (w1.setCell ⟨w.heap.size + 5, 3, none⟩ (.slice (some ⟨g, 0, none⟩) (k + 1) cap)) nm mv (.slice (some ⟨g, 0, none⟩) (k + 1) cap) (k + 1) (ex ++ [x]) J U E T := by
  have hsz := h.size
  have hrow : ∀ j, (Value.slice a k c).ownBlock = some j → w.heap.size + 6 ≤ j := fun j hj => (h.own.lt j hj).1
  have hg' : ∀ j, j < w.heap.size + 6 → w1.heap[j]? = wr.heap[j]? := fun j hj => by
    rw [hg.block j (by simp; omega) (fun e => by have := hrow j e.symm; omega)]
    exact Below.heap_alloc wr o j (by omega)
  have hset : ∀ j, j ≠ w.heap.size + 5 → (w1.setCell ⟨w.heap.size + 5, 3, none⟩ (.slice (some ⟨g, 0, none⟩) (k + 1) cap)).heap[j]? = w1.heap[j]? := fun j hj => Below.heap_setCell _ _ _ _ hj
  have hmap : ∀ {R : Value → Option (DataW Unit × List MemPlace)} {b n : Nat} {D : DataW Unit}, b < w.heap.size + 5 → wr.ownsMap Try.prog 9 R b n D → (w1.setCell ⟨w.heap.size + 5, 3, none⟩ (.slice (some ⟨g, 0, none⟩) (k + 1) cap)).ownsMap Try.prog 9 R b n D := by
    rintro R b n D hb ⟨es, clock, hh, F, hs, hD⟩
    exact ⟨es, clock, by rw [hset b (by omega), hg' b (by omega)]; exact hh, F, hs, hD⟩
  have hb5 : w1.heap[w.heap.size + 5]? = some (.cells (grpCells nm mv (.slice a k c) w.heap.size) 67 (0, 0)) := (hg' _ (by omega)).trans h.blk
  refine ⟨?_, ?_, hmap (by omega) h.j, hmap (by omega) h.u, hmap (by omega) h.e, hmap (by omega) h.t, ?_⟩
  · have hlt := (Array.getElem?_eq_some_iff.1 hb5).1
    simp only [World.setCell, Array.getElem?_modify, hb5]
    simp [grpCells]
  · rw [flat_snoc]
    exact ownsRow_setCell_below ho (by simp) _
  · refine Below.setCell (h.below.trans ⟨hg.os, hg.tape, hg.output, ?_, fun j hj => hg' j (by omega)⟩) (by simp) _
    have := hg.size
    simp at this
    omega

theorem Built.put_j {w wr w1 : World} {nm : ByteArray} {mv rv : Value} {n : Nat} {ex : List (ByteArray × Bool)} {J U E T J' : List ByteArray} (h : Built w wr nm mv rv n ex J U E T)
    (ho : w1.ownsMap Try.prog 9 (plainElem Try.prog 22) w.heap.size J'.length (D (.lit (.int .u64 1)) J')) (hg : wr.grownBy w1 (some w.heap.size)) : Built w w1 nm mv rv n ex J' U E T := by
  have hsz := h.size
  refine ⟨(hg.block _ (by omega) (by simp)).trans h.blk, h.own.kept hg ?_, ho, h.u.kept hg (by simp), h.e.kept hg (by simp), h.t.kept hg (by simp), h.below.grown hg h.below.size (by simp)⟩
  cases hv : rv.ownBlock with
  | none => exact .inl rfl
  | some j => exact .inr (by have := (h.own.lt j hv).1; simp; omega)

theorem Built.put_u {w wr w1 : World} {nm : ByteArray} {mv rv : Value} {n : Nat} {ex : List (ByteArray × Bool)} {J U E T U' : List ByteArray} (h : Built w wr nm mv rv n ex J U E T)
    (ho : w1.ownsMap Try.prog 9 (plainElem Try.prog 4) (w.heap.size + 2) U'.length (D (.lit (.bool true)) U')) (hg : wr.grownBy w1 (some (w.heap.size + 2))) : Built w w1 nm mv rv n ex J U' E T := by
  have hsz := h.size
  refine ⟨(hg.block _ (by omega) (by simp)).trans h.blk, h.own.kept hg ?_, h.j.kept hg (by simp), ho, h.e.kept hg (by simp), h.t.kept hg (by simp), h.below.grown hg h.below.size (by simp)⟩
  cases hv : rv.ownBlock with
  | none => exact .inl rfl
  | some j => exact .inr (by have := (h.own.lt j hv).1; simp; omega)

theorem Built.put_e {w wr w1 : World} {nm : ByteArray} {mv rv : Value} {n : Nat} {ex : List (ByteArray × Bool)} {J U E T E' : List ByteArray} (h : Built w wr nm mv rv n ex J U E T)
    (ho : w1.ownsMap Try.prog 9 (plainElem Try.prog 4) (w.heap.size + 3) E'.length (D (.lit (.bool true)) E')) (hg : wr.grownBy w1 (some (w.heap.size + 3))) : Built w w1 nm mv rv n ex J U E' T := by
  have hsz := h.size
  refine ⟨(hg.block _ (by omega) (by simp)).trans h.blk, h.own.kept hg ?_, h.j.kept hg (by simp), h.u.kept hg (by simp), ho, h.t.kept hg (by simp), h.below.grown hg h.below.size (by simp)⟩
  cases hv : rv.ownBlock with
  | none => exact .inl rfl
  | some j => exact .inr (by have := (h.own.lt j hv).1; simp; omega)

theorem Built.put_t {w wr w1 : World} {nm : ByteArray} {mv rv : Value} {n : Nat} {ex : List (ByteArray × Bool)} {J U E T T' : List ByteArray} (h : Built w wr nm mv rv n ex J U E T)
    (ho : w1.ownsMap Try.prog 9 (plainElem Try.prog 4) (w.heap.size + 4) T'.length (D (.lit (.bool true)) T')) (hg : wr.grownBy w1 (some (w.heap.size + 4))) : Built w w1 nm mv rv n ex J U E T' := by
  have hsz := h.size
  refine ⟨(hg.block _ (by omega) (by simp)).trans h.blk, h.own.kept hg ?_, h.j.kept hg (by simp), h.u.kept hg (by simp), h.e.kept hg (by simp), ho, h.below.grown hg h.below.size (by simp)⟩
  cases hv : rv.ownBlock with
  | none => exact .inl rfl
  | some j => exact .inr (by have := (h.own.lt j hv).1; simp; omega)

set_option maxRecDepth 100000 in
set_option maxHeartbeats 4000000 in
theorem new28 (w : World) (nm : ByteArray) (am : Option Addr) (lm cm : Nat) (a2 : Option Addr) (n cap2 : Nat) (ss : List ByteArray) (h2 : HasS w a2 n cap2 ss) (a3 : Option Addr) (cap3 : Nat) (bs : List Bool) (h3 : HasB w a3 n cap3 bs) (ln : n ≤ 65536)
    (a4 : Option Addr) (len4 cap4 : Nat) (J : List ByteArray) (h4 : HasS w a4 len4 cap4 J) (l4 : len4 ≤ 65536) (a5 : Option Addr) (len5 cap5 : Nat) (U : List ByteArray) (h5 : HasS w a5 len5 cap5 U) (l5 : len5 ≤ 65536)
    (a6 : Option Addr) (len6 cap6 : Nat) (E : List ByteArray) (h6 : HasS w a6 len6 cap6 E) (l6 : len6 ≤ 65536) (a7 : Option Addr) (len7 cap7 : Nat) (T : List ByteArray) (h7 : HasS w a7 len7 cap7 T) (l7 : len7 ≤ 65536) :
    Calls Try.prog 28 #[.string nm, .slice am lm cm, .slice a2 n cap2, .slice a3 n cap3, .slice a4 len4 cap4, .slice a5 len5 cap5, .slice a6 len6 cap6, .slice a7 len7 cap7] w fun e w' =>
      e = .returned (.pointer (some ⟨w.heap.size + 5, 0, none⟩)) ∧ ∃ ar cr, Built w w' nm (.slice am lm cm) (.slice ar n cr) n (ss.zip bs) J U E T := by
  obtain ⟨i0, hi0, hz0, hz1, hz2⟩ := info_parts Try.info75
  have hmm := @run_makeMap Try.prog
  go_enter Try.func28, Try.ntmps28
  go_wp2_with fail
  clear hmm
  rw [show w.heap.size + 1 + 1 + 1 + 1 + 1 = w.heap.size + 5 from rfl]
  go_loopw [19] (fun i wr => ∃ (k : Nat) (a : Option Addr) (c : Nat), k ≤ n ∧ i = .int .i64 k ∧ Built w wr nm (.slice am lm cm) (.slice a k c) k ((ss.zip bs).take k) [] [] [] []) (fun i _ => n - (intOf i).toNat)
  case atStart => exact ⟨0, none, 0, Nat.zero_le _, rfl, Built.start w nm (.slice am lm cm)⟩
  obtain ⟨k, a, c, hk, rfl, hB⟩ := hrel
  have HL2 : Hid (ss.length = n) := h2.length
  have HL3 : Hid (bs.length = n) := h3.length
  by_cases hlt : k < n
  · obtain ⟨b2, o2, rfl, s, hse, -, hsz, hw2⟩ := h2.get hlt
    obtain ⟨b3, o3, rfl, hw3⟩ := h3.get hlt
    have lb2 : b2 < w.heap.size := World.block_lt_of_cell? _ _ hw2
    have lb3 : b3 < w.heap.size := World.block_lt_of_cell? _ _ hw3
    have hc2 := (hB.below.cell (p := ⟨b2, o2 + k, none⟩) lb2).trans hw2
    have hc3 := (hB.below.cell (p := ⟨b3, o3 + k, none⟩) lb3).trans hw3
    clear hw2 hw3
    have HZ : Hid ((ss.zip bs).take (k + 1) = (ss.zip bs).take k ++ [(s, bs.getD k false)]) := by
      show _ = _
      rw [List.take_succ_eq_append_getElem (by simp [HL2.out, HL3.out]; exact hlt), hse]
      simp [show k < ss.length by rw [HL2.out]; exact hlt, show k < bs.length by rw [HL3.out]; exact hlt]
    generalize bs.getD k false = d at hc3 HZ
    have c3 : wr.cell? ⟨w.heap.size + 5, 3, none⟩ = some (.slice a k c) := hB.cell 3
    have f3 := hB.free 3
    have hsz6 := hB.size
    have hown := hB.own
    have hrow : ∀ j, (Value.slice a k c).ownBlock = some j → w.heap.size + 6 ≤ j := fun j hj => (hown.lt j hj).1
    have g5 : (Value.slice a k c).ownBlock ≠ some (w.heap.size + 5) := fun e => by have := hrow (w.heap.size + 5) e; omega
    have cA : ∀ o, (wr.alloc o).cell? ⟨w.heap.size + 5, 3, none⟩ = some (.slice a k c) := fun o => (World.cell?_of_block (Below.heap_alloc wr o (w.heap.size + 5) (by omega))).trans c3
    have fA : ∀ o, (wr.alloc o).frozen? ⟨w.heap.size + 5, 3, none⟩ = false := fun o => (World.frozen?_of_block (Below.heap_alloc wr o (w.heap.size + 5) (by omega))).trans f3
    have fB : ∀ o, (wr.alloc o).drew.frozen? ⟨w.heap.size + 5, 3, none⟩ = false := fA
    have hi0' : (0 : Int) ≤ (k : Int) := Int.natCast_nonneg _
    have hi1 : (k : Int) < (n : Int) := by omega
    have HB : Hid (Built w wr nm (.slice am lm cm) (.slice a k c) k ((ss.zip bs).take k) [] [] [] []) := hB
    clear hrow hB h2 h3 h4 h5 h6 h7 hse
    go_wp2_with fail
    go_region_law ((refine step_append_lies _ (by rfl) _ _ _ (by rfl) (w.heap.size + 6) 75 i0 _ 2 24 Try.underlying63 hi0 hz0 hz1 hz2 rfl (by omega) (.slice a k c) k _ (by rfl) ((hown.alloc _).drew) ⟨wr.heap.size, 0, none⟩ 1 1 [.string s, .bool d] (by rfl) (by rfl) (World.news_of_block (cs := #[.string s, .bool d]) (t := 75) (fr := (0, 0)) (heap_alloc_new wr _)) (by simp [Value.oneCell']) (by omega) (by unfold maxLen; omega) (by omega) (by simp; omega) (wr.heap.size + 1) (by simp) ?_; intro gg cap w1 hown1 hgrow hat hlt1; have c31 := (hgrow.cell_far ⟨w.heap.size + 5, 3, none⟩ (by simp; omega) (Ne.symm g5)).trans (cA _); have f31 := (hgrow.frozen_far ⟨w.heap.size + 5, 3, none⟩ (by simp; omega) (Ne.symm g5)).trans (fA _)))
    all_goals
      go_wp2
      go_roundw
      case rel => exact ⟨k + 1, some ⟨gg, 0, none⟩, cap, by omega, by go_num, by rw [HZ.out]; exact HB.out.push hown1 hgrow⟩
      case measure => simp [intOf]; omega
  obtain rfl : n = k := by omega
  rw [List.take_of_length_le (by simp [HL2.out, HL3.out])] at hB
  clear hlt hk
  go_wp2
  go_loopw [70, 21] (fun i _ wr => ∃ k : Nat, k ≤ len4 ∧ i = .int .i64 k ∧ Built w wr nm (.slice am lm cm) (.slice a n c) n (ss.zip bs) (J.take k) [] [] []) (fun i _ _ => len4 - (intOf i).toNat)
  case atStart => exact ⟨0, Nat.zero_le _, rfl, hB⟩
  clear hB
  obtain ⟨k, hk, rfl, hB⟩ := hrel
  have HL4 : Hid (J.length = len4) := h4.length
  by_cases hlt : k < len4
  · obtain ⟨b2, o2, rfl, s, hse, -, hsz, hw2⟩ := h4.get hlt
    have lb2 : b2 < w.heap.size := World.block_lt_of_cell? _ _ hw2
    have hc2 := (hB.below.cell (p := ⟨b2, o2 + k, none⟩) lb2).trans hw2
    have HK : Hid (D (.lit (.int .u64 1)) (J.take (k + 1)) = (D (.lit (.int .u64 1)) (J.take k)).put (kl s) (.lit (.int .u64 1))) := by
      show _ = _
      rw [hse]
      exact D_take _ _ k (by rw [HL4.out]; exact hlt)
    have cc : wr.cell? ⟨w.heap.size + 5, 4, none⟩ = some (.map (some w.heap.size)) := hB.cell 4
    have ho := hB.j
    have HLk : Hid ((J.take k).length = k) := by
      show _ = _
      rw [List.length_take, HL4.out]
      omega
    rw [HLk.out] at ho
    have HB : Hid _ := hB
    clear hB h2 h3 h4 h5 h6 h7 hse hw2
    go_wp2_with (at_mapUpdate; refine wpList_mapUpdate_own _ rfl _ _ _ 64 rfl 9 22 law Try.underlying64 _ w.heap.size k _ rfl ho (by unfold maxLen; omega) _ _ _ rfl rfl (kl_key hsz) _ [] (plainElem_int Try.underlying22 (by decide)) ?_; intro w1 ho1 hg1)
    go_roundw
    case rel =>
      refine ⟨k + 1, by omega, by go_num, HB.out.put_j ?_ hg1⟩
      rw [HK.out]
      exact ho1.mono (by rw [List.length_take, HL4.out]; omega)
    case measure => simp [intOf]; omega
  obtain rfl : len4 = k := by omega
  rw [List.take_of_length_le (by rw [HL4.out]; omega)] at hB
  clear hlt hk
  go_wp2
  go_loopw [82, 23] (fun i _ wr => ∃ k : Nat, k ≤ len5 ∧ i = .int .i64 k ∧ Built w wr nm (.slice am lm cm) (.slice a n c) n (ss.zip bs) J (U.take k) [] []) (fun i _ _ => len5 - (intOf i).toNat)
  case atStart => exact ⟨0, Nat.zero_le _, rfl, hB⟩
  clear hB
  obtain ⟨k, hk, rfl, hB⟩ := hrel
  have HL5 : Hid (U.length = len5) := h5.length
  by_cases hlt : k < len5
  · obtain ⟨b2, o2, rfl, s, hse, -, hsz, hw2⟩ := h5.get hlt
    have lb2 : b2 < w.heap.size := World.block_lt_of_cell? _ _ hw2
    have hc2 := (hB.below.cell (p := ⟨b2, o2 + k, none⟩) lb2).trans hw2
    have HK : Hid (D (.lit (.bool true)) (U.take (k + 1)) = (D (.lit (.bool true)) (U.take k)).put (kl s) (.lit (.bool true))) := by
      show _ = _
      rw [hse]
      exact D_take _ _ k (by rw [HL5.out]; exact hlt)
    have cc : wr.cell? ⟨w.heap.size + 5, 8, none⟩ = some (.map (some (w.heap.size + 2))) := hB.cell 8
    have ho := hB.u
    have HLk : Hid ((U.take k).length = k) := by
      show _ = _
      rw [List.length_take, HL5.out]
      omega
    rw [HLk.out] at ho
    have HB : Hid _ := hB
    clear hB h2 h3 h4 h5 h6 h7 hse hw2
    go_wp2_with (at_mapUpdate; refine wpList_mapUpdate_own _ rfl _ _ _ 65 rfl 9 4 law Try.underlying65 _ (w.heap.size + 2) k _ rfl ho (by unfold maxLen; omega) _ _ _ rfl rfl (kl_key hsz) _ [] (plainElem_bool Try.underlying4 true) ?_; intro w1 ho1 hg1)
    go_roundw
    case rel =>
      refine ⟨k + 1, by omega, by go_num, HB.out.put_u ?_ hg1⟩
      rw [HK.out]
      exact ho1.mono (by rw [List.length_take, HL5.out]; omega)
    case measure => simp [intOf]; omega
  obtain rfl : len5 = k := by omega
  rw [List.take_of_length_le (by rw [HL5.out]; omega)] at hB
  clear hlt hk
  go_wp2
  go_loopw [94, 25] (fun i _ wr => ∃ k : Nat, k ≤ len6 ∧ i = .int .i64 k ∧ Built w wr nm (.slice am lm cm) (.slice a n c) n (ss.zip bs) J U (E.take k) []) (fun i _ _ => len6 - (intOf i).toNat)
  case atStart => exact ⟨0, Nat.zero_le _, rfl, hB⟩
  clear hB
  obtain ⟨k, hk, rfl, hB⟩ := hrel
  have HL6 : Hid (E.length = len6) := h6.length
  by_cases hlt : k < len6
  · obtain ⟨b2, o2, rfl, s, hse, -, hsz, hw2⟩ := h6.get hlt
    have lb2 : b2 < w.heap.size := World.block_lt_of_cell? _ _ hw2
    have hc2 := (hB.below.cell (p := ⟨b2, o2 + k, none⟩) lb2).trans hw2
    have HK : Hid (D (.lit (.bool true)) (E.take (k + 1)) = (D (.lit (.bool true)) (E.take k)).put (kl s) (.lit (.bool true))) := by
      show _ = _
      rw [hse]
      exact D_take _ _ k (by rw [HL6.out]; exact hlt)
    have cc : wr.cell? ⟨w.heap.size + 5, 9, none⟩ = some (.map (some (w.heap.size + 3))) := hB.cell 9
    have ho := hB.e
    have HLk : Hid ((E.take k).length = k) := by
      show _ = _
      rw [List.length_take, HL6.out]
      omega
    rw [HLk.out] at ho
    have HB : Hid _ := hB
    clear hB h2 h3 h4 h5 h6 h7 hse hw2
    go_wp2_with (at_mapUpdate; refine wpList_mapUpdate_own _ rfl _ _ _ 65 rfl 9 4 law Try.underlying65 _ (w.heap.size + 3) k _ rfl ho (by unfold maxLen; omega) _ _ _ rfl rfl (kl_key hsz) _ [] (plainElem_bool Try.underlying4 true) ?_; intro w1 ho1 hg1)
    go_roundw
    case rel =>
      refine ⟨k + 1, by omega, by go_num, HB.out.put_e ?_ hg1⟩
      rw [HK.out]
      exact ho1.mono (by rw [List.length_take, HL6.out]; omega)
    case measure => simp [intOf]; omega
  obtain rfl : len6 = k := by omega
  rw [List.take_of_length_le (by rw [HL6.out]; omega)] at hB
  clear hlt hk
  go_wp2
  go_loopw [106, 27] (fun i _ wr => ∃ k : Nat, k ≤ len7 ∧ i = .int .i64 k ∧ Built w wr nm (.slice am lm cm) (.slice a n c) n (ss.zip bs) J U E (T.take k)) (fun i _ _ => len7 - (intOf i).toNat)
  case atStart => exact ⟨0, Nat.zero_le _, rfl, hB⟩
  clear hB
  obtain ⟨k, hk, rfl, hB⟩ := hrel
  have HL7 : Hid (T.length = len7) := h7.length
  by_cases hlt : k < len7
  · obtain ⟨b2, o2, rfl, s, hse, -, hsz, hw2⟩ := h7.get hlt
    have lb2 : b2 < w.heap.size := World.block_lt_of_cell? _ _ hw2
    have hc2 := (hB.below.cell (p := ⟨b2, o2 + k, none⟩) lb2).trans hw2
    have HK : Hid (D (.lit (.bool true)) (T.take (k + 1)) = (D (.lit (.bool true)) (T.take k)).put (kl s) (.lit (.bool true))) := by
      show _ = _
      rw [hse]
      exact D_take _ _ k (by rw [HL7.out]; exact hlt)
    have cc : wr.cell? ⟨w.heap.size + 5, 10, none⟩ = some (.map (some (w.heap.size + 4))) := hB.cell 10
    have ho := hB.t
    have HLk : Hid ((T.take k).length = k) := by
      show _ = _
      rw [List.length_take, HL7.out]
      omega
    rw [HLk.out] at ho
    have HB : Hid _ := hB
    clear hB h2 h3 h4 h5 h6 h7 hse hw2
    go_wp2_with (at_mapUpdate; refine wpList_mapUpdate_own _ rfl _ _ _ 65 rfl 9 4 law Try.underlying65 _ (w.heap.size + 4) k _ rfl ho (by unfold maxLen; omega) _ _ _ rfl rfl (kl_key hsz) _ [] (plainElem_bool Try.underlying4 true) ?_; intro w1 ho1 hg1)
    go_roundw
    case rel =>
      refine ⟨k + 1, by omega, by go_num, HB.out.put_t ?_ hg1⟩
      rw [HK.out]
      exact ho1.mono (by rw [List.length_take, HL7.out]; omega)
    case measure => simp [intOf]; omega
  obtain rfl : len7 = k := by omega
  rw [List.take_of_length_le (by rw [HL7.out]; omega)] at hB
  clear hlt hk
  go_wp2
  go_ret
  exact ⟨rfl, a, c, hB⟩
end Go.Proofs.Qxb6600058a
