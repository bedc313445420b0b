/-
  THE STATE OF THE LAW for seat b6600280a: the snapshots, what join meets, what stands behind it.
-/
import Derived.Test.Qxb6600280aBuild
namespace Go.Proofs.Qxb6600280a
open Go.RowKit
set_option linter.unusedVariables false

/-- The bytes of a block. -/
def bytesOf (W : World) (g : Nat) : List Int := match W.heap[g]? with
  | some (.cells cs _ _) => cs.toList.map intOf
  | _ => []
theorem Row.bytes {W : World} {g L : Nat} {bs : List Int} (h : Row W g L bs) : bytesOf W g = bs := by
  simp [bytesOf, h.2, intOf, Function.comp_def]

structure SInv (W0 wr : World) (S0 m k : Nat) (RL : List Rec) (sn : Nat → Nat) : Prop where
  below : Below W0.heap.size W0 wr
  S0N : W0.heap.size ≤ S0
  row : ∃ cur : Array Value, wr.heap[S0]? = some (.cells cur 22 (0, 0)) ∧ cur.size = m
  cell : ∀ j r, j < k → RL[j]? = some r → wr.cell? ⟨S0, j, none⟩ = some (.slice (some ⟨sn j, 0, none⟩) r.L r.L)
  snap : ∀ j r, j < k → RL[j]? = some r → Row wr (sn j) r.L (bytesOf W0 r.g) ∧ W0.heap.size ≤ sn j ∧ sn j ≠ S0

theorem sinv_start (W0 : World) (m : Nat) (RL : List Rec) : SInv W0 (W0.alloc (.cells (madeCells #[.slice none 0 0] m) 22)) W0.heap.size m 0 RL (fun _ => 0) :=
  ⟨below_al (Below.refl _ _) _, Nat.le_refl _, ⟨_, heap_alloc_new _ _, size_madeCells _ _⟩, fun j r hj => by omega, fun j r hj => by omega⟩

section
variable {w W0 wr V : World} {S0 m k : Nat} {RL : List Rec} {sn : Nat → Nat} {r : Rec}

theorem SInv.slt (h : SInv W0 wr S0 m k RL sn) : S0 < wr.heap.size := by
  obtain ⟨cur, hc, _⟩ := h.row
  exact (Array.getElem?_eq_some_iff.1 hc).1
/-- The cell that is written. -/
theorem SInv.spot (h : SInv W0 wr S0 m k RL sn) (hk : k < m) (hV : Below wr.heap.size wr V) : (∃ u, V.cell? ⟨S0, k, none⟩ = some u) ∧ V.frozen? ⟨S0, k, none⟩ = false := by
  obtain ⟨cur, hc, hs⟩ := h.row
  have hc' := (hV.block S0 h.slt).trans hc
  exact ⟨⟨cur[k]'(by omega), by simp [World.cell?, hc', show k < cur.size by omega]⟩, by simp [World.frozen?, hc']⟩
theorem SInv.step (h : SInv W0 wr S0 m k RL sn) (hk : k < m) (hr : RL[k]? = some r) (hV : Below wr.heap.size wr V) (hR : Row V wr.heap.size r.L (bytesOf W0 r.g)) :
    SInv W0 (V.setCell ⟨S0, k, none⟩ (.slice (some ⟨wr.heap.size, 0, none⟩) r.L r.L)) S0 m (k + 1) RL (fun j => if j = k then wr.heap.size else sn j) := by
  have hlt := h.slt
  obtain ⟨cur, hc, hs⟩ := h.row
  have hc' := (hV.block S0 h.slt).trans hc
  obtain ⟨⟨u, hu⟩, _⟩ := h.spot hk hV
  have hrow : ∀ {g L : Nat} {bs : List Int}, g ≠ S0 → Row V g L bs → Row (V.setCell ⟨S0, k, none⟩ (.slice (some ⟨wr.heap.size, 0, none⟩) r.L r.L)) g L bs := fun hne hr => ⟨hr.1, (Below.heap_setCell _ _ _ _ (by simpa using hne)).trans hr.2⟩
  have hs0 := h.below.size
  refine ⟨(h.below.trans ⟨hV.os, hV.tape, hV.output, hV.size, fun k hk => hV.block k (by omega)⟩).setCell h.S0N _, h.S0N, ⟨_, heap_setCell_same hc' _, by simpa using hs⟩, fun j q hj hq => ?_, fun j q hj hq => ?_⟩
  · by_cases e : j = k
    · subst e
      obtain rfl : r = q := by rw [hr] at hq; exact Option.some.inj hq
      simp only [if_true]
      exact World.cell?_setCell_same _ _ _ hu
    · simp only [if_neg e]
      rw [World.cell?_setCell_other _ _ _ _ (by simp only [ne_eq, Addr.mk.injEq, true_and, and_true]; exact fun e' => e e'.symm)]
      exact (hV.cell (p := ⟨S0, j, none⟩) hlt).trans (h.cell j q (by omega) hq)
  · by_cases e : j = k
    · subst e
      obtain rfl : r = q := by rw [hr] at hq; exact Option.some.inj hq
      simp only [if_true]
      exact ⟨hrow (by omega) hR, h.below.size, by omega⟩
    · simp only [if_neg e]
      obtain ⟨h1, h2, h3⟩ := h.snap j q (by omega) hq
      exact ⟨hrow h3 ⟨h1.1, (hV.block _ h1.lt).trans h1.2⟩, h2, h3⟩

def noRec : Rec := ⟨0, 0, 0, 0, 0, false⟩

/-- WHAT join MEETS. -/
theorem join_start {v : Value} {E : List (Nat × Nat)} (hB : BI w W0 m v RL RL RL E) (hS : SInv W0 wr S0 m m RL sn) (hl : RL.length = m) (hm : 0 < m) (hm2 : m ≤ 4096) :
    ∃ ca cap, Fixed wr w.heap.size ca m cap RL ∧ JInv wr wr w.heap.size ca m cap RL (bytesOf W0) (fun j => RL.getD j noRec) ∧ wr.cell? ⟨w.heap.size, 0, none⟩ = some (.slice (some ⟨ca, 0, none⟩) m cap) ∧ wr.frozen? ⟨w.heap.size, 0, none⟩ = false ∧ w.heap.size + 4 ≤ ca ∧ ca < W0.heap.size := by
  have hB' := hB.fresh hS.below
  obtain ⟨ca, cap, rfl, h4, hlt⟩ := hB.own.form (by omega)
  have hs := hB.szs
  have hs' := hB'.szs
  obtain ⟨c1, c2, hpc⟩ := hB'.pc
  obtain ⟨q0, q1, q2, qf⟩ := cells3 hpc
  rw [hl] at q0 hB hB'
  have hown := hB'.own
  rw [hl] at hown
  obtain ⟨hxl, hown2⟩ := hown
  have hcur : ∃ cur, wr.heap[ca]? = some (.cells cur 59 (0, 0)) ∧ m ≤ cap ∧ cur.size = cap * 5 ∧ cur.toList.take (m * 5) = recs RL := by
    rcases hown2 with ⟨h1, h2⟩ | ⟨g, cap', cur, hv, _, hh, hn, _, hsz, ht⟩
    · omega
    · cases hv
      exact ⟨cur, hh, hn, hsz, ht⟩
  obtain ⟨cur, hcu, hmc, hsz, htk⟩ := hcur
  have hget : ∀ j, j < m → RL[j]? = some (RL.getD j noRec) := fun j hj => by simp [show j < RL.length by omega]
  have hmem : ∀ j, j < m → RL.getD j noRec ∈ RL := fun j hj => List.mem_of_getElem? (hget j hj)
  have hrow : ∀ q ∈ RL, Row wr q.g q.L (bytesOf W0 q.g) := fun q hq => by
    obtain ⟨bs, hb⟩ := (hB.good q hq).row
    rw [hb.bytes]
    exact ⟨hb.1, (hS.below.block _ hb.lt).trans hb.2⟩
  have hwl := hS.below.size
  refine ⟨ca, cap, ⟨by omega, by omega, by omega, fun q hq => ?_, fun q hq q' hq' e => ?_, hmc, by omega⟩, ⟨rfl, ⟨cur, hcu, hsz⟩, fun j hj i hi => ?_, fun j hj => ?_, fun q hq => ⟨_, hrow q hq, rfl⟩, rfl, rfl, rfl, Nat.le_refl _, fun _ _ _ _ => rfl⟩, q0, qf 0, h4, hlt⟩
  · have hg := hB'.good q hq
    exact ⟨hg.lt, by have := hg.N4; omega, fun e => hg.nv (by rw [e]; rfl)⟩
  · obtain ⟨i, hi⟩ := List.mem_iff_getElem?.1 hq
    obtain ⟨i', hi'⟩ := List.mem_iff_getElem?.1 hq'
    have h1 := (List.getElem?_eq_some_iff.1 hi).1
    have h2 := (List.getElem?_eq_some_iff.1 hi').1
    have : i = i' := by
      have hn := hB'.nodup
      refine (List.getElem?_inj (l := RL.map (·.g)) (by simpa using h1) hn).1 ?_
      simp [hi, hi', e]
    subst this
    rw [hi] at hi'
    exact Option.some.inj hi'
  · show wr.cell? ⟨ca, j * 5 + i, none⟩ = _
    rw [cell_of_row wr ca (j * 5 + i) cur 59 (0, 0) hcu, ← recs_get RL j i _ (hget j hj) hi, ← htk, List.getElem?_take, if_pos (by omega)]
    simp
  · have hg := hB'.good _ (hmem j hj)
    exact ⟨hg.se, hg.eL, hg.LL, hg.row, .inl ⟨_, hmem j hj, rfl, rfl, rfl, Nat.le_refl _⟩⟩

theorem has_row {W : World} {g L n : Nat} {bs zs : List Int} (h : Row W g L bs) (hn : n ≤ L) (hz : bs.take n = zs) : HasI .u8 W (some ⟨g, 0, none⟩) n L zs := by
  refine ⟨fun h => (by cases h), fun ad had j u hu => ?_, ?_⟩
  · obtain rfl := Option.some.inj had
    rw [Addr.add_lit, cell_of_row W g (0 + j) _ 5 (0, 0) h.2]
    rw [← hz, List.getElem?_map, List.getElem?_take] at hu
    by_cases hj : j < n
    · rw [if_pos hj] at hu
      simpa using hu
    · rw [if_neg hj] at hu
      simp at hu
  · rw [List.length_map, ← hz, List.length_take, h.1]
    omega

/-- What the law's last loop reads. -/
structure Fin' (W : World) (N S0 : Nat) (RL : List Rec) (sn : Nat → Nat) (bc : Nat → List Int) : Prop where
  fb : ∀ (j : Nat) (r : Rec), RL[j]? = some r → W.cell? ⟨N + 1, j, none⟩ = some (.slice (some ⟨r.g, 0, none⟩) r.L r.L)
  fh : ∀ (j : Nat) (r : Rec), RL[j]? = some r → W.cell? ⟨N + 2, j, none⟩ = some (.int .i64 r.s)
  fe : ∀ (j : Nat) (r : Rec), RL[j]? = some r → ∃ x, W.cell? ⟨N + 3, j, none⟩ = some (.slice (some ⟨x, 0, none⟩) (r.e - r.s) (r.e - r.s))
  fs : ∀ (j : Nat) (r : Rec), RL[j]? = some r → W.cell? ⟨S0, j, none⟩ = some (.slice (some ⟨sn j, 0, none⟩) r.L r.L)
  ga : ∀ (j : Nat) (r : Rec), RL[j]? = some r → HasI .u8 W (some ⟨r.g, 0, none⟩) r.keep r.L ((bc r.g).take r.keep)
  gb : ∀ (j : Nat) (r : Rec), RL[j]? = some r → HasI .u8 W (some ⟨sn j, 0, none⟩) r.keep r.L ((bc r.g).take r.keep)
  ok : ∀ (j : Nat) (r : Rec), RL[j]? = some r → r.s < r.e ∧ r.e ≤ r.L ∧ r.L ≤ 262144

theorem join_end {v : Value} {E : List (Nat × Nat)} {w2 : World} {ca : Nat} (hB : BI w W0 m v RL RL RL E) (hS : SInv W0 wr S0 m m RL sn) (hl : RL.length = m) (hes : E.map (·.2) = RL.map fun r => r.e - r.s)
    (h4 : w.heap.size + 4 ≤ ca) (hca : ca < W0.heap.size) (hJ : JPost wr w2 w.heap.size ca RL (bytesOf W0)) : Fin' w2 w.heap.size S0 RL sn (bytesOf W0) ∧ Below w.heap.size w w2 := by
  have hs := hB.szs
  have hwl := hS.below.size
  have hN := hS.S0N
  have hlow : ∀ k, k ≠ w.heap.size → k < w.heap.size + 4 → w2.heap[k]? = W0.heap[k]? := fun k h1 h2 =>
    (hJ.other k (by omega) h1 (by omega) (fun q hq e => by have := (hB.good q hq).N4; omega)).trans (hS.below.block k (by omega))
  have hhigh : ∀ k, W0.heap.size ≤ k → k < wr.heap.size → w2.heap[k]? = wr.heap[k]? := fun k h1 h2 =>
    hJ.other k h2 (by omega) (by omega) (fun q hq e => by have := (hB.good q hq).lt; omega)
  have hkl : ∀ r ∈ RL, r.keep ≤ r.L := fun r hr => by
    have := (hB.good r hr).eL
    unfold Rec.keep
    split <;> omega
  have hj : ∀ j r, RL[j]? = some r → j < m := fun j r h => by have := (List.getElem?_eq_some_iff.1 h).1; omega
  refine ⟨⟨fun j r h => ?_, fun j r h => ?_, fun j r h => ?_, fun j r h => ?_, fun j r h => ?_, fun j r h => ?_, fun j r h => ?_⟩, ?_⟩
  · have hc := hB.bufs.cells rfl j r.bufv (by rw [List.getElem?_map, h]; rfl)
    rw [Addr.add_lit, Nat.zero_add] at hc
    exact (World.cell?_of_block (hlow _ (by simp) (by simp))).trans hc
  · have hc := hB.heads.cells rfl j r.headv (by rw [List.getElem?_map, h]; rfl)
    rw [Addr.add_lit, Nat.zero_add] at hc
    exact (World.cell?_of_block (hlow _ (by simp) (by simp))).trans hc
  · have he : (E.map (·.2))[j]? = some (r.e - r.s) := by rw [hes, List.getElem?_map, h]; rfl
    rw [List.getElem?_map] at he
    obtain ⟨p, hp, hp2⟩ := Option.map_eq_some_iff.1 he
    have hc := hB.elems.cells rfl j (elv p) (by rw [List.getElem?_map, hp]; rfl)
    rw [Addr.add_lit, Nat.zero_add] at hc
    refine ⟨p.1, (World.cell?_of_block (hlow _ (by simp) (by simp))).trans ?_⟩
    rw [hc, ← hp2]
    rfl
  · exact (World.cell?_of_block (hhigh _ hN hS.slt)).trans (hS.cell j r (hj j r h) h)
  · obtain ⟨bs, hr, ht⟩ := hJ.buf r (List.mem_of_getElem? h)
    exact has_row hr (hkl r (List.mem_of_getElem? h)) ht
  · obtain ⟨h1, h2, h3⟩ := hS.snap j r (hj j r h) h
    exact has_row (bs := bytesOf W0 r.g) ⟨h1.1, (hhigh _ h2 h1.lt).trans h1.2⟩ (hkl r (List.mem_of_getElem? h)) rfl
  · have hg := hB.good r (List.mem_of_getElem? h)
    exact ⟨hg.se, hg.eL, hg.LL⟩
  · refine ⟨hJ.os.trans (hS.below.os.trans hB.below.os), hJ.tape.trans (hS.below.tape.trans hB.below.tape), hJ.output.trans (hS.below.output.trans hB.below.output), Nat.le_trans hB.below.size (Nat.le_trans hwl hJ.size), fun k hk => ?_⟩
    exact (hlow k (by omega) (by omega)).trans (hB.below.block k hk)
end
end Go.Proofs.Qxb6600280a
