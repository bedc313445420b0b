/-
  THE MEMORY OF shortestPath for seat b6600314a: the map cameFrom, and the queue (a row with an offset).
-/
import Derived.Test.Qxb6600314aBfs
import Derived.Maps.OwnSet
import Derived.Maps.Views
import Derived.ArgAppend
namespace Go.Proofs.Qxb6600314a
open Go.RowKit
open Go.Maps (Keyed IsMap)
set_option linter.unusedVariables false

theorem law3 : Keyed Try.prog 3 := Go.Maps.int_keyed Try.underlying3
theorem zero3 (w : World) : (zeroValue 3).run Try.prog w = .ok (.int .i64 0) w := by kernel_rfl
theorem lit_wf {x : Nat} (h : x ≤ 65536) : (Lit.int .i64 (x : Int)).wf = true := by
  simp only [Lit.wf, Bool.and_eq_true, decide_eq_true_eq]
  have e1 : IntKind.i64.min = -9223372036854775808 := by decide
  have e2 : IntKind.i64.max = 9223372036854775807 := by decide
  rw [e1, e2]
  omega
theorem nkey {x : Nat} (h : x ≤ 65536) : keyOf Try.prog 3 (.int .i64 (x : Int)) = some (.int .i64 (x : Int)) := Go.Maps.keyOf_int_mk Try.underlying3 (lit_wf h)
theorem nlit (x : Nat) : WideAt.IsKeyLit (.int .i64 (x : Int)) := by simp [WideAt.IsKeyLit]

/-- The map's datum. -/
structure MapIs (D : DataW Unit) (cf : Nat → Option Nat) : Prop where
  isMap : IsMap D
  has : ∀ x : Nat, Go.Maps.has D (.int .i64 (x : Int)) = (cf x).isSome
  val : ∀ x y : Nat, cf x = some y → ∀ z, D.atKey (.int .i64 (x : Int)) z = .lit (.int .i64 (y : Int))
theorem mapis_nil : MapIs (.map []) (fun _ => none) := ⟨⟨[], rfl⟩, fun x => rfl, fun x y h => by cases h⟩
theorem MapIs.put {D : DataW Unit} {cf : Nat → Option Nat} (h : MapIs D cf) (a b : Nat) (hm : IsMap (D.put (.int .i64 (a : Int)) (.lit (.int .i64 (b : Int))))) : MapIs (D.put (.int .i64 (a : Int)) (.lit (.int .i64 (b : Int)))) (setC cf a b) := by
  refine ⟨hm, fun x => ?_, fun x y hx z => ?_⟩
  · by_cases e : x = a
    · subst e
      rw [Go.Maps.has_put_same h.isMap (nlit x), setC_same]
      rfl
    · rw [Go.Maps.has_put_other (by intro e'; injection e' with _ e2; omega), h.has, setC_other _ _ e]
  · by_cases e : x = a
    · subst e
      rw [setC_same] at hx
      obtain rfl : b = y := by simpa using hx
      exact Go.Maps.atKey_put_same h.isMap (nlit x) _ _
    · rw [setC_other _ _ e] at hx
      rw [Go.Maps.atKey_put_other (by intro e'; injection e' with _ e2; omega)]
      exact h.val x y hx z

/-- The queue. -/
structure QRow (wr : World) (base g off cap : Nat) (q : List Nat) : Prop where
  base : base ≤ g
  row : ∃ cur, wr.heap[g]? = some (.cells cur 3 (0, 0)) ∧ off + cap ≤ cur.size ∧ ∀ j, j < q.length → cur[off + j]? = (ints q)[j]?
  le : q.length ≤ cap

structure BM (w wr : World) (cf : Nat → Option Nat) (cnt : Nat) (g off cap : Nat) (q : List Nat) : Prop where
  below : Below w.heap.size w wr
  map : ∃ D, wr.ownsMap Try.prog 3 (plainElem Try.prog 3) w.heap.size cnt D ∧ MapIs D cf
  que : QRow wr (w.heap.size + 1) g off cap q

section
variable {w wr w' : World} {cf : Nat → Option Nat} {cnt g off cap : Nat} {q : List Nat}

theorem QRow.lt {base : Nat} (h : QRow wr base g off cap q) : g < wr.heap.size := by
  obtain ⟨cur, h1, _⟩ := h.row
  exact (Array.getElem?_eq_some_iff.1 h1).1
theorem QRow.keep {base : Nat} (h : QRow wr base g off cap q) (hb : w'.heap[g]? = wr.heap[g]?) : QRow w' base g off cap q := by
  obtain ⟨cur, h1, h2⟩ := h.row
  exact ⟨h.base, ⟨cur, hb.trans h1, h2⟩, h.le⟩
theorem QRow.cell {base : Nat} (h : QRow wr base g off cap q) {j v : Nat} (hj : q[j]? = some v) : wr.cell? ⟨g, off + j, none⟩ = some (.int .i64 (v : Int)) := by
  obtain ⟨cur, h1, h2, h3⟩ := h.row
  have hlt : j < q.length := (List.getElem?_eq_some_iff.1 hj).1
  refine cell_blk h1 ?_
  rw [h3 j hlt]
  simp [ints, hj]

theorem BM.fresh (h : BM w wr cf cnt g off cap q) (hb : Below wr.heap.size wr w') : BM w w' cf cnt g off cap q := by
  obtain ⟨D, hm, hd⟩ := h.map
  have hlt := hm.lt
  refine ⟨h.below.trans ⟨hb.os, hb.tape, hb.output, hb.size, fun k hk => hb.block k (by omega)⟩, ⟨D, ?_, hd⟩, h.que.keep (hb.block g h.que.lt)⟩
  obtain ⟨es, clock, e1, e2⟩ := hm
  exact ⟨es, clock, (hb.block _ hlt).trans e1, e2⟩
theorem BM.drewN (h : BM w wr cf cnt g off cap q) (m : Nat) : BM w (wr.drewN m) cf cnt g off cap q := h.fresh ⟨rfl, rfl, rfl, Nat.le_refl _, fun _ _ => rfl⟩
theorem BM.al (h : BM w wr cf cnt g off cap q) (ob : Obj) : BM w (wr.alloc ob) cf cnt g off cap q := h.fresh ((Below.refl _ _).alloc (Nat.le_refl _) ob)

theorem BM.lookOk (h : BM w wr cf cnt g off cap q) {x : Nat} (hx : x ≤ 65536) : ∃ c, ∀ m, (Instr.lookup 41 (.map (some w.heap.size)) (.int .i64 (x : Int)) true).run Try.prog (wr.drewN m) = .ok (.tuple #[.int .i64 c, .bool (cf x).isSome]) (wr.drewN m) := by
  obtain ⟨D, hm, hd⟩ := h.map
  have key : ∀ W : World, W.ownsMap Try.prog 3 (plainElem Try.prog 3) w.heap.size cnt D → ∃ c, (Instr.lookup 41 (.map (some w.heap.size)) (.int .i64 (x : Int)) true).run Try.prog W = .ok (.tuple #[.int .i64 c, .bool (cf x).isSome]) W ∧ D.atKey (.int .i64 (x : Int)) (.lit (.int .i64 0)) = .lit (.int .i64 c) := by
    intro W hW
    obtain ⟨v, ps, hrun, hv⟩ := hW.look_ok law3 Try.underlying41 (zero3 W) (plainElem_int Try.underlying3 (by decide)) (nkey hx)
    obtain ⟨c, rfl, hc, _⟩ := plainElem_int_inv Try.underlying3 hv
    rw [hd.has] at hrun
    exact ⟨c, hrun, congrArg Prod.fst hc⟩
  obtain ⟨c, _, hc⟩ := key wr hm
  refine ⟨c, fun m => ?_⟩
  obtain ⟨c', h1, h2⟩ := key (wr.drewN m) hm
  rw [hc] at h2
  obtain rfl : c = c' := by simpa using h2
  exact h1
theorem BM.look (h : BM w wr cf cnt g off cap q) {x y : Nat} (hx : x ≤ 65536) (hy : cf x = some y) : (Instr.lookup 41 (.map (some w.heap.size)) (.int .i64 (x : Int)) false).run Try.prog wr = .ok (.int .i64 (y : Int)) wr := by
  obtain ⟨D, hm, hd⟩ := h.map
  obtain ⟨c, hrun, hc, _⟩ := hm.lookup_int law3 Try.underlying41 Try.underlying3 (zero3 wr) (nkey hx)
  rw [hd.val x y hy] at hc
  obtain rfl : (y : Int) = c := by simpa using hc
  exact hrun
theorem BM.put (h : BM w wr cf cnt g off cap q) {a b : Nat} (ha : a ≤ 65536) (hb : b ≤ 65536) (hc : cnt ≤ 65536) : ∃ w', (Instr.mapUpdate 41 (.map (some w.heap.size)) (.int .i64 (a : Int)) (.int .i64 (b : Int))).run Try.prog wr = .ok () w' ∧ BM w w' (setC cf a b) (cnt + 1) g off cap q := by
  obtain ⟨D, hm, hd⟩ := h.map
  obtain ⟨w', hrun, ho, ht⟩ := hm.store law3 Try.underlying41 (by unfold maxLen; omega) (nkey ha) (plainElem_int Try.underlying3 (lit_wf hb))
  have hg := ht.grown
  refine ⟨w', hrun, ?_, ⟨_, ho, hd.put a b ho.isMap⟩, h.que.keep (hg.block g h.que.lt (fun e => ?_))⟩
  · exact h.below.grown hg h.below.size (fun k hk => by cases hk; exact Nat.le_refl _)
  · have := h.que.base
    have : g = w.heap.size := by simpa using e
    omega

theorem setCells_one (W : World) (b o : Nat) (u : Value) : W.setCells b o [u] = W.setCell ⟨b, o, none⟩ u := rfl

theorem BM.app (h : BM w wr cf cnt g off cap q) (x : Nat) (hq : q.length ≤ 65536) : ∃ g' off' cap' w', (Builtin.append_ #[25, 25] 25 #[.slice (some ⟨g, off, none⟩) q.length cap, .slice (some ⟨wr.heap.size, 0, none⟩) 1 1]).run Try.prog (wr.alloc (.cells #[.int .i64 (x : Int)] 3)) = .ok (.slice (some ⟨g', off', none⟩) (q.length + 1) cap') w' ∧
    BM w w' cf cnt g' off' cap' (q ++ [x]) := by
  obtain ⟨i3, hi3, hz30, hz31, hz32⟩ := info_parts Try.info3
  have hA := h.al (.cells #[.int .i64 (x : Int)] 3)
  have hsz : (wr.alloc (.cells #[.int .i64 (x : Int)] 3)).heap.size = wr.heap.size + 1 := sz_alloc _ _
  have hnews : ∀ j u, [Value.int .i64 (x : Int)][j]? = some u → (wr.alloc (.cells #[.int .i64 (x : Int)] 3)).cell? ((⟨wr.heap.size, 0, none⟩ : Addr).add j) = some u :=
    World.news_of_block (cs := #[.int .i64 (x : Int)]) (t := 3) (fr := (0, 0)) (heap_alloc_new wr _)
  have h1C : ∀ u ∈ [Value.int .i64 (x : Int)], u.oneCell' = true := by simp [Value.oneCell']
  generalize (wr.alloc (.cells #[.int .i64 (x : Int)] 3)) = W at hA hsz hnews ⊢
  obtain ⟨cur, k1, k2, k3⟩ := hA.que.row
  have hle := hA.que.le
  by_cases hroom : q.length + 1 ≤ cap
  · have hr := run_append_room_cells (P := Try.prog) W 25 25 3 i3 Try.underlying25 hi3 g off q.length cap ⟨wr.heap.size, 0, none⟩ 1 1 [.int .i64 (x : Int)] (by rw [hz31]; rfl) hnews h1C hroom
      (fun j hj => by
        obtain rfl : j = 0 := by simpa using hj
        rw [hz31, cell_blk k1 (v := cur[off + q.length * 1 + 0]'(by omega)) (by simp)]; rfl) (fun j hj => free_blk k1)
    rw [hz31, Nat.mul_one, setCells_one] at hr
    refine ⟨g, off, cap, _, hr, ?_⟩
    obtain ⟨D, hm, hd⟩ := hA.map
    have hgb := hA.que.base
    refine ⟨hA.below.setCell (by show _ ≤ g; omega) _, ⟨D, hm.setCell (by show w.heap.size ≠ g; omega) _, hd⟩, hgb, ⟨_, heap_setCell_same k1 _, by simpa using k2, fun j hj => ?_⟩, by simpa using hroom⟩
    rw [List.length_append, show [x].length = 1 from rfl] at hj
    rw [← ints_snoc]
    by_cases e : j = q.length
    · subst e
      rw [List.getElem?_append_right (by rw [ints_len]; exact Nat.le_refl _), ints_len, Nat.sub_self, Array.getElem?_setIfInBounds_self_of_lt (by omega)]
      rfl
    · rw [List.getElem?_append_left (by rw [ints_len]; omega), Array.getElem?_setIfInBounds_ne (by omega)]
      exact k3 j (by omega)
  · obtain ⟨v', w', hrun, ho, hg⟩ := run_append_arg_grows (P := Try.prog) W 25 25 3 i3 _ 1 8 Try.underlying25 hi3 hz30 hz31 hz32 rfl (by omega) ⟨g, off, none⟩ q.length cap (ints q) (by rw [ints_len]; omega) (fun j u hu => by
        have hj : j < q.length := by have := (List.getElem?_eq_some_iff.1 hu).1; rwa [ints_len] at this
        rw [Addr.add_lit]
        refine cell_blk k1 ?_
        rw [k3 j hj]
        exact hu) ⟨wr.heap.size, 0, none⟩ 1 1 [.int .i64 (x : Int)] rfl hnews (by omega) (by unfold maxLen; omega) (by omega)
    rcases ho.2 with ⟨_, h0⟩ | ⟨g', cap', cur', rfl, hb', hgg, hn, hcm, hcs, htk⟩
    · omega
    · refine ⟨g', 0, cap', w', hrun, ?_⟩
      obtain ⟨D, hm, hd⟩ := hA.map
      have hlt := hm.lt
      refine ⟨hA.below.grown hg (by rw [hsz]; have := h.below.size; omega) (fun k hk => by cases hk), ⟨D, hm.kept hg (by simp), hd⟩, by omega, ⟨cur', hgg, by omega, fun j hj => ?_⟩, by simpa using hn⟩
      rw [Nat.mul_one] at htk
      rw [ints_snoc] at htk
      rw [← htk, Nat.zero_add, List.getElem?_take, if_pos (by simpa using hj)]
      simp

theorem BM.pop {a : Nat} (h : BM w wr cf cnt g off cap (a :: q)) : (cap = 1 → BM w wr cf cnt g off 0 q) ∧ (cap ≠ 1 → BM w wr cf cnt g (off + 1) (cap - 1) q) := by
  obtain ⟨cur, k1, k2, k3⟩ := h.que.row
  have hle := h.que.le
  rw [List.length_cons] at hle
  have hnext : ∀ j, j < q.length → cur[off + 1 + j]? = (ints q)[j]? := fun j hj => by
    have := k3 (j + 1) (by rw [List.length_cons]; omega)
    rw [show off + (j + 1) = off + 1 + j from by omega] at this
    rw [this]
    simp [ints]
  refine ⟨fun e => ⟨h.below, h.map, h.que.base, ⟨cur, k1, by omega, fun j hj => ?_⟩, by omega⟩, fun e => ⟨h.below, h.map, h.que.base, ⟨cur, k1, by omega, hnext⟩, by omega⟩⟩
  omega
end
end Go.Proofs.Qxb6600314a
