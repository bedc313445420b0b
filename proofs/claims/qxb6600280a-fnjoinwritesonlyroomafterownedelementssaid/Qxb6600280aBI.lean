/-
  THE STATE OF jBuild for seat b6600280a: the list's struct, its array, the three rows beside it, and the buffers.
-/
import Derived.Test.Qxb6600280aApp
namespace Go.Proofs.Qxb6600280a
open Go.RowKit
set_option linter.unusedVariables false

def Rec.bufv (r : Rec) : Value := .slice (some ⟨r.g, 0, none⟩) r.L r.L
def Rec.headv (r : Rec) : Value := .int .i64 r.s
def elv (p : Nat × Nat) : Value := .slice (some ⟨p.1, 0, none⟩) p.2 p.2
def recs (RL : List Rec) : List Value := RL.flatMap fun r => r.cells.toList

theorem recs_snoc (RL : List Rec) (r : Rec) : recs (RL ++ [r]) = recs RL ++ [.slice (some ⟨r.g, 0, none⟩) r.L r.L, .int .i64 r.s, .int .i64 r.e, .int .i64 r.c, .bool r.o] := by
  simp [recs, Rec.cells]
theorem recs_get (RL : List Rec) (j i : Nat) (r : Rec) (h : RL[j]? = some r) (hi : i < 5) : (recs RL)[j * 5 + i]? = r.cells[i]? := by
  induction RL generalizing j with
  | nil => simp at h
  | cons q RL ih =>
    have hq : q.cells.toList.length = 5 := rfl
    cases j with
    | zero =>
      simp only [List.getElem?_cons_zero, Option.some.injEq] at h
      subst h
      have : recs (q :: RL) = q.cells.toList ++ recs RL := rfl
      rw [this, List.getElem?_append_left (by rw [hq]; omega)]
      simp
    | succ j =>
      have : recs (q :: RL) = q.cells.toList ++ recs RL := rfl
      rw [this, List.getElem?_append_right (by rw [hq]; omega), hq, show (j + 1) * 5 + i - 5 = j * 5 + i from by omega]
      exact ih j (by simpa using h)

theorem owns_block {w w' : World} {base : Nat} {e : TypeId} {size : Nat} {v : Value} {n : Nat} {xs : List Value} (h : w.ownsRow base e size v n xs) (hb : ∀ g, v.ownBlock = some g → g < w.heap.size → w'.heap[g]? = w.heap[g]?) : w'.ownsRow base e size v n xs := by
  refine ⟨h.1, ?_⟩
  rcases h.2 with hn | ⟨g, cap, cur, rfl, hb', hgg, rest⟩
  · exact .inl hn
  · refine .inr ⟨g, cap, cur, rfl, hb', ?_, rest⟩
    rw [hb g rfl (Array.getElem?_eq_some_iff.1 hgg).1]
    exact hgg

/-- What is known of a chunk that lies in the list. -/
structure Good (wr : World) (N : Nat) (v : Value) (r : Rec) : Prop where
  row : ∃ bs, Row wr r.g r.L bs
  N4 : N + 4 ≤ r.g
  nv : some r.g ≠ v.ownBlock
  se : r.s < r.e
  eL : r.e ≤ r.L
  LL : r.L ≤ 262144

structure BI (w wr : World) (m : Nat) (v : Value) (RL B H : List Rec) (E : List (Nat × Nat)) : Prop where
  below : Below w.heap.size w wr
  pc : ∃ c1 c2, wr.heap[w.heap.size]? = some (.cells #[v, .int .i64 c1, .int .i64 c2] 57 (0, 0))
  own : wr.ownsRow (w.heap.size + 4) 59 5 v RL.length (recs RL)
  bufs : wr.ownsRow (w.heap.size + 1) 22 1 (.slice (some ⟨w.heap.size + 1, 0, none⟩) B.length m) B.length (B.map Rec.bufv)
  heads : wr.ownsRow (w.heap.size + 1) 3 1 (.slice (some ⟨w.heap.size + 2, 0, none⟩) H.length m) H.length (H.map Rec.headv)
  elems : wr.ownsRow (w.heap.size + 1) 22 1 (.slice (some ⟨w.heap.size + 3, 0, none⟩) E.length m) E.length (E.map elv)
  good : ∀ r ∈ RL, Good wr w.heap.size v r
  nodup : (RL.map (·.g)).Nodup

section
variable {w wr : World} {m : Nat} {v : Value} {RL B H : List Rec} {E : List (Nat × Nat)}

theorem BI.szs (h : BI w wr m v RL B H E) : w.heap.size + 4 ≤ wr.heap.size := by
  have := (h.elems.lt (w.heap.size + 3) rfl).2
  omega
theorem BI.vlt (h : BI w wr m v RL B H E) {k : Nat} (hk : v.ownBlock = some k) : w.heap.size + 4 ≤ k ∧ k < wr.heap.size := h.own.lt k hk

theorem Good.of_block {wr w' : World} {N : Nat} {v v' : Value} {r : Rec} (h : Good wr N v r) (hb : w'.heap[r.g]? = wr.heap[r.g]?) (hv : some r.g ≠ v'.ownBlock) : Good w' N v' r := by
  obtain ⟨bs, h1, h2⟩ := h.row
  exact ⟨⟨bs, h1, hb.trans h2⟩, h.N4, hv, h.se, h.eL, h.LL⟩
theorem Good.lt {wr : World} {N : Nat} {v : Value} {r : Rec} (h : Good wr N v r) : r.g < wr.heap.size := by
  obtain ⟨bs, hr⟩ := h.row
  exact hr.lt

/-- New blocks turn nothing. -/
theorem BI.fresh (h : BI w wr m v RL B H E) {w' : World} (hb : Below wr.heap.size wr w') : BI w w' m v RL B H E := by
  have hs := h.szs
  refine ⟨h.below.trans ⟨hb.os, hb.tape, hb.output, hb.size, fun k hk => hb.block k (by omega)⟩, ?_, owns_block h.own fun g _ hg => hb.block g hg, owns_block h.bufs fun g _ hg => hb.block g hg, owns_block h.heads fun g _ hg => hb.block g hg, owns_block h.elems fun g _ hg => hb.block g hg, fun r hr => (h.good r hr).of_block (hb.block _ (h.good r hr).lt) (h.good r hr).nv, h.nodup⟩
  obtain ⟨c1, c2, hc⟩ := h.pc
  exact ⟨c1, c2, (hb.block _ (by omega)).trans hc⟩

/-- A chunk is appended to the list. -/
theorem BI.app (h : BI w wr m v RL B H E) {w' : World} {r : Rec} (hr : Good wr w.heap.size v r) (hnew : ∀ q ∈ RL, q.g ≠ r.g)
    (ha : App wr w' w.heap.size (w.heap.size + 4) v RL.length (recs (RL ++ [r]))) : ∃ v', BI w w' m v' (RL ++ [r]) B H E := by
  have hs := h.szs
  obtain ⟨ca, cap, c1, c2, hp, ho, hca⟩ := ha.row
  have hca4 : w.heap.size + 4 ≤ ca := (ho.lt ca rfl).1
  have hblk : ∀ k, w.heap.size + 1 ≤ k → k < wr.heap.size → some k ≠ v.ownBlock → w'.heap[k]? = wr.heap[k]? := fun k h1 h2 h3 => ha.block k h2 (by omega) h3
  have hlow : ∀ k, k < w.heap.size + 4 → some k ≠ v.ownBlock := fun k hk e => by
    have := (h.vlt e.symm).1
    omega
  have hne : ∀ q, Good wr w.heap.size v q → some q.g ≠ (Value.slice (some ⟨ca, 0, none⟩) (RL.length + 1) cap).ownBlock := fun q hq e => by
    have e' : q.g = ca := by simpa [Value.ownBlock] using e
    rcases hca with h1 | h1
    · exact hq.nv (by rw [h1, e'])
    · have := hq.lt
      omega
  refine ⟨.slice (some ⟨ca, 0, none⟩) (RL.length + 1) cap, ⟨ha.os.trans h.below.os, ha.tape.trans h.below.tape, ha.output.trans h.below.output, Nat.le_trans h.below.size ha.size, fun k hk => (ha.block k (by omega) (by omega) (hlow k (by omega))).trans (h.below.block k hk)⟩, ⟨c1, c2, hp⟩, by simpa using ho, ?_, ?_, ?_, fun q hq => ?_, ?_⟩
  · exact owns_block h.bufs fun g hg hlt => by
      obtain rfl : w.heap.size + 1 = g := by simpa [Value.ownBlock] using hg
      exact hblk _ (by omega) hlt (hlow _ (by omega))
  · exact owns_block h.heads fun g hg hlt => by
      obtain rfl : w.heap.size + 2 = g := by simpa [Value.ownBlock] using hg
      exact hblk _ (by omega) hlt (hlow _ (by omega))
  · exact owns_block h.elems fun g hg hlt => by
      obtain rfl : w.heap.size + 3 = g := by simpa [Value.ownBlock] using hg
      exact hblk _ (by omega) hlt (hlow _ (by omega))
  · have hg : Good wr w.heap.size v q := by
      rcases List.mem_append.1 hq with hq | hq
      · exact h.good q hq
      · rw [List.mem_singleton.1 hq]; exact hr
    exact hg.of_block (hblk _ (by have := hg.N4; omega) hg.lt hg.nv) (hne q hg)
  · rw [List.map_append, List.nodup_append]
    refine ⟨h.nodup, by simp, ?_⟩
    intro a ha b hb
    obtain ⟨q, hq, rfl⟩ := List.mem_map.1 ha
    have : b = r.g := by simpa using hb
    rw [this]
    exact hnew q hq

/-- One of the three rows is appended to. -/
theorem BI.row1 (h : BI w wr m v RL B H E) {w' : World} {r : Rec} (hg : wr.grownBy w' (some (w.heap.size + 1)))
    (ho : w'.ownsRow (w.heap.size + 1) 22 1 (.slice (some ⟨w.heap.size + 1, 0, none⟩) (B.length + 1) m) (B.length + 1) (B.map Rec.bufv ++ [r.bufv])) : BI w w' m v RL (B ++ [r]) H E := by
  have hs := h.szs
  have hblk : ∀ k, k < wr.heap.size → k ≠ w.heap.size + 1 → w'.heap[k]? = wr.heap[k]? := fun k h1 h2 => hg.block k h1 (by simpa using h2)
  refine ⟨⟨hg.os.trans h.below.os, hg.tape.trans h.below.tape, hg.output.trans h.below.output, Nat.le_trans h.below.size hg.size, fun k hk => (hblk k (by omega) (by omega)).trans (h.below.block k hk)⟩, ?_, ?_, by simpa using ho, ?_, ?_, fun q hq => ?_, h.nodup⟩
  · obtain ⟨c1, c2, hc⟩ := h.pc
    exact ⟨c1, c2, (hblk _ (by omega) (by omega)).trans hc⟩
  · exact owns_block h.own fun g hv hlt => hblk g hlt (by have := (h.vlt hv).1; omega)
  · exact owns_block h.heads fun g hg' hlt => by
      obtain rfl : w.heap.size + 2 = g := by simpa [Value.ownBlock] using hg'
      exact hblk _ hlt (by omega)
  · exact owns_block h.elems fun g hg' hlt => by
      obtain rfl : w.heap.size + 3 = g := by simpa [Value.ownBlock] using hg'
      exact hblk _ hlt (by omega)
  · exact (h.good q hq).of_block (hblk _ (h.good q hq).lt (by have := (h.good q hq).N4; omega)) (h.good q hq).nv

theorem BI.row2 (h : BI w wr m v RL B H E) {w' : World} {r : Rec} (hg : wr.grownBy w' (some (w.heap.size + 2)))
    (ho : w'.ownsRow (w.heap.size + 1) 3 1 (.slice (some ⟨w.heap.size + 2, 0, none⟩) (H.length + 1) m) (H.length + 1) (H.map Rec.headv ++ [r.headv])) : BI w w' m v RL B (H ++ [r]) E := by
  have hs := h.szs
  have hblk : ∀ k, k < wr.heap.size → k ≠ w.heap.size + 2 → w'.heap[k]? = wr.heap[k]? := fun k h1 h2 => hg.block k h1 (by simpa using h2)
  refine ⟨⟨hg.os.trans h.below.os, hg.tape.trans h.below.tape, hg.output.trans h.below.output, Nat.le_trans h.below.size hg.size, fun k hk => (hblk k (by omega) (by omega)).trans (h.below.block k hk)⟩, ?_, ?_, ?_, by simpa using ho, ?_, fun q hq => ?_, h.nodup⟩
  · obtain ⟨c1, c2, hc⟩ := h.pc
    exact ⟨c1, c2, (hblk _ (by omega) (by omega)).trans hc⟩
  · exact owns_block h.own fun g hv hlt => hblk g hlt (by have := (h.vlt hv).1; omega)
  · exact owns_block h.bufs fun g hg' hlt => by
      obtain rfl : w.heap.size + 1 = g := by simpa [Value.ownBlock] using hg'
      exact hblk _ hlt (by omega)
  · exact owns_block h.elems fun g hg' hlt => by
      obtain rfl : w.heap.size + 3 = g := by simpa [Value.ownBlock] using hg'
      exact hblk _ hlt (by omega)
  · exact (h.good q hq).of_block (hblk _ (h.good q hq).lt (by have := (h.good q hq).N4; omega)) (h.good q hq).nv

theorem BI.row3 (h : BI w wr m v RL B H E) {w' : World} {p : Nat × Nat} (hg : wr.grownBy w' (some (w.heap.size + 3)))
    (ho : w'.ownsRow (w.heap.size + 1) 22 1 (.slice (some ⟨w.heap.size + 3, 0, none⟩) (E.length + 1) m) (E.length + 1) (E.map elv ++ [elv p])) : BI w w' m v RL B H (E ++ [p]) := by
  have hs := h.szs
  have hblk : ∀ k, k < wr.heap.size → k ≠ w.heap.size + 3 → w'.heap[k]? = wr.heap[k]? := fun k h1 h2 => hg.block k h1 (by simpa using h2)
  refine ⟨⟨hg.os.trans h.below.os, hg.tape.trans h.below.tape, hg.output.trans h.below.output, Nat.le_trans h.below.size hg.size, fun k hk => (hblk k (by omega) (by omega)).trans (h.below.block k hk)⟩, ?_, ?_, ?_, ?_, by simpa using ho, fun q hq => ?_, h.nodup⟩
  · obtain ⟨c1, c2, hc⟩ := h.pc
    exact ⟨c1, c2, (hblk _ (by omega) (by omega)).trans hc⟩
  · exact owns_block h.own fun g hv hlt => hblk g hlt (by have := (h.vlt hv).1; omega)
  · exact owns_block h.bufs fun g hg' hlt => by
      obtain rfl : w.heap.size + 1 = g := by simpa [Value.ownBlock] using hg'
      exact hblk _ hlt (by omega)
  · exact owns_block h.heads fun g hg' hlt => by
      obtain rfl : w.heap.size + 2 = g := by simpa [Value.ownBlock] using hg'
      exact hblk _ hlt (by omega)
  · exact (h.good q hq).of_block (hblk _ (h.good q hq).lt (by have := (h.good q hq).N4; omega)) (h.good q hq).nv
end
end Go.Proofs.Qxb6600280a
