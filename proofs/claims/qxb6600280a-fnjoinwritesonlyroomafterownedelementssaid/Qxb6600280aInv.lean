/-
  THE STATE OF join for seat b6600280a: the records of the chunk array, the buffers, and what stays as it was.
-/
import Derived.Test.Qxb6600280aSplice
namespace Go.Proofs.Qxb6600280a
open Go.RowKit
set_option linter.unusedVariables false

/-- A chunk: its buffer's block and length, where its elements begin and end, their count, is it owned? -/
structure Rec where
  g : Nat
  L : Nat
  s : Nat
  e : Nat
  c : Int
  o : Bool

def Rec.cells (r : Rec) : Array Value := #[.slice (some ⟨r.g, 0, none⟩) r.L r.L, .int .i64 r.s, .int .i64 r.e, .int .i64 r.c, .bool r.o]
/-- How many bytes of its buffer join may not write. -/
def Rec.keep (r : Rec) : Nat := if r.o then r.e else r.L

/-- Block g is a row of L bytes. -/
def Row (w : World) (g L : Nat) (bs : List Int) : Prop := bs.length = L ∧ w.heap[g]? = some (.cells (bs.map (Value.int .u8)).toArray 5 (0, 0))

/-- A record of the array as it may stand while join works. -/
structure Ok (w wr : World) (R0 : List Rec) (r : Rec) : Prop where
  se : r.s < r.e
  eL : r.e ≤ r.L
  LL : r.L ≤ 262144
  row : ∃ bs, Row wr r.g r.L bs
  from' : (∃ q ∈ R0, q.g = r.g ∧ q.L = r.L ∧ q.o = r.o ∧ q.e ≤ r.e) ∨ w.heap.size ≤ r.g

/-- The j-th record's cells lie in the array. -/
def At (wr : World) (ca j : Nat) (r : Rec) : Prop := ∀ i, i < 5 → wr.cell? ⟨ca, j * 5 + i, none⟩ = r.cells[i]?

structure JInv (w wr : World) (pl ca n cap : Nat) (R0 : List Rec) (bc : Nat → List Int) (rs : Nat → Rec) : Prop where
  plb : wr.heap[pl]? = w.heap[pl]?
  arr : Arr wr ca cap
  at' : ∀ j, j < n → At wr ca j (rs j)
  ok : ∀ j, j < n → Ok w wr R0 (rs j)
  buf : ∀ q ∈ R0, ∃ bs, Row wr q.g q.L bs ∧ bs.take q.keep = (bc q.g).take q.keep
  os : wr.os = w.os
  tape : wr.tape = w.tape
  output : wr.output = w.output
  size : w.heap.size ≤ wr.heap.size
  other : ∀ k, k < w.heap.size → k ≠ ca → (∀ q ∈ R0, k ≠ q.g) → wr.heap[k]? = w.heap[k]?

/-- What is fixed: the buffers lie apart, and apart from the list and its array. -/
structure Fixed (w : World) (pl ca n cap : Nat) (R0 : List Rec) : Prop where
  ltp : pl < w.heap.size
  ltc : ca < w.heap.size
  pc : pl ≠ ca
  lt : ∀ q ∈ R0, q.g < w.heap.size ∧ q.g ≠ pl ∧ q.g ≠ ca
  apart : ∀ q ∈ R0, ∀ q' ∈ R0, q.g = q'.g → q = q'
  ncap : n ≤ cap
  nn : n ≤ 1048576

section
variable {w wr : World} {pl ca n cap : Nat} {R0 : List Rec} {bc : Nat → List Int} {rs : Nat → Rec}

theorem JInv.ne_ca (h : JInv w wr pl ca n cap R0 bc rs) (hf : Fixed w pl ca n cap R0) {j : Nat} (hj : j < n) : (rs j).g ≠ ca := by
  rcases (h.ok j hj).from' with ⟨q, hq, e, _⟩ | hN
  · rw [← e]; exact (hf.lt q hq).2.2
  · have := hf.ltc; omega
theorem JInv.ne_pl (h : JInv w wr pl ca n cap R0 bc rs) (hf : Fixed w pl ca n cap R0) {j : Nat} (hj : j < n) : (rs j).g ≠ pl := by
  rcases (h.ok j hj).from' with ⟨q, hq, e, _⟩ | hN
  · rw [← e]; exact (hf.lt q hq).2.1
  · have := hf.ltp; omega
theorem Row.lt {w : World} {g L : Nat} {bs : List Int} (h : Row w g L bs) : g < w.heap.size := (Array.getElem?_eq_some_iff.1 h.2).1

/-- The records' cells are single cells. -/
theorem JInv.ones (h : JInv w wr pl ca n cap R0 bc rs) : Ones wr ca (n * 5) := fun i v hi hv => by
  have hj : i / 5 < n := by omega
  have := h.at' (i / 5) hj (i % 5) (Nat.mod_lt _ (by omega))
  rw [show i / 5 * 5 + i % 5 = i from by omega, hv] at this
  rcases (show i % 5 = 0 ∨ i % 5 = 1 ∨ i % 5 = 2 ∨ i % 5 = 3 ∨ i % 5 = 4 from by omega) with e | e | e | e | e <;> rw [e] at this <;> (obtain rfl := Option.some.inj this; rfl)

/-- Draws turn nothing. -/
theorem JInv.drewN (h : JInv w wr pl ca n cap R0 bc rs) (k : Nat) : JInv w (wr.drewN k) pl ca n cap R0 bc rs :=
  ⟨h.plb, h.arr, h.at', fun j hj => ⟨(h.ok j hj).se, (h.ok j hj).eL, (h.ok j hj).LL, (h.ok j hj).row, (h.ok j hj).from'⟩, h.buf, h.os, h.tape, h.output, h.size, h.other⟩

/-- New blocks turn nothing. -/
theorem JInv.below (h : JInv w wr pl ca n cap R0 bc rs) (hf : Fixed w pl ca n cap R0) {w' : World} (hb : Below wr.heap.size wr w') : JInv w w' pl ca n cap R0 bc rs := by
  have hs := h.size
  have hp := hf.ltp
  have hc := hf.ltc
  have hrow : ∀ {g L : Nat} {bs : List Int}, Row wr g L bs → Row w' g L bs := fun hr => ⟨hr.1, (hb.block _ hr.lt).trans hr.2⟩
  refine ⟨(hb.block pl (by omega)).trans h.plb, ?_, fun j hj i hi => (hb.cell (p := ⟨ca, j * 5 + i, none⟩) (by show ca < _; omega)).trans (h.at' j hj i hi), fun j hj => ?_, fun q hq => ?_, hb.os.trans h.os, hb.tape.trans h.tape, hb.output.trans h.output, Nat.le_trans h.size hb.size, fun k hk h1 h2 => (hb.block k (by omega)).trans (h.other k hk h1 h2)⟩
  · obtain ⟨cur, h1, h2⟩ := h.arr
    exact ⟨cur, (hb.block ca (by omega)).trans h1, h2⟩
  · obtain ⟨bs, hr⟩ := (h.ok j hj).row
    exact ⟨(h.ok j hj).se, (h.ok j hj).eL, (h.ok j hj).LL, ⟨bs, hrow hr⟩, (h.ok j hj).from'⟩
  · obtain ⟨bs, hr, ht⟩ := h.buf q hq
    exact ⟨bs, hrow hr, ht⟩

/-- A store of one cell of the array. -/
theorem arr_set {wr : World} {ca cap i : Nat} {v : Value} (h : Arr wr ca cap) : Arr (wr.setCell ⟨ca, i, none⟩ v) ca cap := by
  obtain ⟨cur, h1, h2⟩ := h
  exact ⟨cur.setIfInBounds i v, heap_setCell_same h1 v, by simpa using h2⟩
theorem arr_free {wr : World} {ca cap : Nat} (h : Arr wr ca cap) (i : Nat) : wr.frozen? ⟨ca, i, none⟩ = false := by
  obtain ⟨cur, h1, h2⟩ := h
  simp [World.frozen?, h1]
theorem arr_cell {wr : World} {ca cap : Nat} (h : Arr wr ca cap) {i : Nat} (hi : i < cap * 5) : ∃ v, wr.cell? ⟨ca, i, none⟩ = some v := by
  obtain ⟨cur, h1, h2⟩ := h
  exact ⟨cur[i]'(by omega), by simp [World.cell?, h1, show i < cur.size by omega]⟩

/-- ONE RECORD OF THE ARRAY IS WRITTEN ANEW (some of its cells, or all): the world behind it has the same blocks but for the array's. -/
theorem JInv.setrec (h : JInv w wr pl ca n cap R0 bc rs) (hf : Fixed w pl ca n cap R0) {w' : World} {j : Nat} (hj : j < n) {r : Rec} (hr : Ok w wr R0 r) (ha : Arr w' ca cap)
    (hg : wr.grownBy w' (some ca)) (hat : At w' ca j r) (hold : ∀ j', j' < n → j' ≠ j → ∀ i, i < 5 → w'.cell? ⟨ca, j' * 5 + i, none⟩ = wr.cell? ⟨ca, j' * 5 + i, none⟩) :
    JInv w w' pl ca n cap R0 bc (fun k => if k = j then r else rs k) := by
  have hs := h.size
  have hp := hf.ltp
  have hrow : ∀ {g L : Nat} {bs : List Int}, g ≠ ca → Row wr g L bs → Row w' g L bs := fun hne hr => ⟨hr.1, (hg.block _ hr.lt (by simpa using hne)).trans hr.2⟩
  have hrc : r.g ≠ ca := by
    rcases hr.from' with ⟨q, hq, e, _⟩ | hN
    · rw [← e]; exact (hf.lt q hq).2.2
    · have := hf.ltc; omega
  refine ⟨(hg.block pl (by omega) (by simpa using hf.pc)).trans h.plb, ha, fun k hk => ?_, fun k hk => ?_, fun q hq => ?_, hg.os.trans h.os, hg.tape.trans h.tape, hg.output.trans h.output, Nat.le_trans h.size hg.size, fun k hk h1 h2 => (hg.block k (by omega) (by simpa using h1)).trans (h.other k hk h1 h2)⟩
  · by_cases e : k = j
    · subst e; simpa using hat
    · intro i hi
      simp only [if_neg e]
      exact (hold k hk e i hi).trans (h.at' k hk i hi)
  · by_cases e : k = j
    · subst e
      simp only [if_true]
      obtain ⟨bs, hb⟩ := hr.row
      exact ⟨hr.se, hr.eL, hr.LL, ⟨bs, hrow hrc hb⟩, hr.from'⟩
    · simp only [if_neg e]
      obtain ⟨bs, hb⟩ := (h.ok k hk).row
      exact ⟨(h.ok k hk).se, (h.ok k hk).eL, (h.ok k hk).LL, ⟨bs, hrow (h.ne_ca hf hk) hb⟩, (h.ok k hk).from'⟩
  · obtain ⟨bs, hb, ht⟩ := h.buf q hq
    exact ⟨bs, hrow (hf.lt q hq).2.2 hb, ht⟩

theorem map_splice (bs xs : List Int) (off : Nat) : splice (bs.map (Value.int .u8)) off (xs.map (Value.int .u8)) = (splice bs off xs).map (Value.int .u8) := by
  simp [splice]
theorem take_splice (bs xs : List Int) (off k : Nat) (h : k ≤ off) (hb : off ≤ bs.length) : (splice bs off xs).take k = bs.take k := by
  unfold splice
  rw [List.take_append_of_le_length (by simp; omega), List.take_take, Nat.min_eq_left h]

/-- BYTES ARE WRITTEN BEHIND THE END OF AN OWNED RECORD's ELEMENTS. -/
theorem JInv.write (h : JInv w wr pl ca n cap R0 bc rs) (hf : Fixed w pl ca n cap R0) {w' : World} {j : Nat} (hj : j < n) (ho : (rs j).o = true) {bs xs : List Int} (hrow : Row wr (rs j).g (rs j).L bs) (hfit : (rs j).e + xs.length ≤ (rs j).L)
    (hh : w'.heap[(rs j).g]? = some (.cells (splice (bs.map (Value.int .u8)) (rs j).e (xs.map (Value.int .u8))).toArray 5 (0, 0))) (hg : wr.grownBy w' (some (rs j).g)) : JInv w w' pl ca n cap R0 bc rs := by
  have hs := h.size
  have hp := hf.ltp
  have hc := hf.ltc
  have hca := h.ne_ca hf hj
  have hpl := h.ne_pl hf hj
  rw [map_splice] at hh
  have hlen : (splice bs (rs j).e xs).length = (rs j).L := by rw [length_splice _ _ _ (by rw [hrow.1]; exact hfit), hrow.1]
  have hrows : ∀ {g L : Nat} {cs : List Int}, Row wr g L cs → ∃ cs', Row w' g L cs' ∧ (g ≠ (rs j).g → cs' = cs) ∧ (g = (rs j).g → cs = bs ∧ cs' = splice bs (rs j).e xs) := by
    intro g L cs hr
    by_cases e : g = (rs j).g
    · subst e
      have e1 : cs = bs := by
        have := hr.2.symm.trans hrow.2
        simp only [Option.some.injEq, Obj.cells.injEq] at this
        have := congrArg Array.toList this.1
        simp only at this
        exact (List.map_inj_right (fun a b hab => by simpa using hab)).1 this
      subst e1
      have e2 : L = (rs j).L := by rw [← hr.1, hrow.1]
      exact ⟨_, ⟨by rw [hlen, e2], hh⟩, fun hne => absurd rfl hne, fun _ => ⟨rfl, rfl⟩⟩
    · exact ⟨cs, ⟨hr.1, (hg.block g hr.lt (by simpa using e)).trans hr.2⟩, fun _ => rfl, fun hne => absurd hne e⟩
  refine ⟨(hg.block pl (by omega) (by simpa using Ne.symm hpl)).trans h.plb, ?_, fun k hk i hi => ?_, fun k hk => ?_, fun q hq => ?_, hg.os.trans h.os, hg.tape.trans h.tape, hg.output.trans h.output, Nat.le_trans h.size hg.size, fun k hk h1 h2 => ?_⟩
  · obtain ⟨cur, h1, h2⟩ := h.arr
    exact ⟨cur, (hg.block ca (by omega) (by simpa using Ne.symm hca)).trans h1, h2⟩
  · rw [← h.at' k hk i hi]
    exact World.cell?_of_block (hg.block ca (by omega) (by simpa using Ne.symm hca))
  · obtain ⟨cs, hr⟩ := (h.ok k hk).row
    obtain ⟨cs', hr', _⟩ := hrows hr
    exact ⟨(h.ok k hk).se, (h.ok k hk).eL, (h.ok k hk).LL, ⟨cs', hr'⟩, (h.ok k hk).from'⟩
  · obtain ⟨cs, hr, ht⟩ := h.buf q hq
    obtain ⟨cs', hr', h1, h2⟩ := hrows hr
    refine ⟨cs', hr', ?_⟩
    by_cases e : q.g = (rs j).g
    · obtain ⟨rfl, rfl⟩ := h2 e
      rw [← ht]
      have hqe : q.o = true ∧ q.e ≤ (rs j).e := by
        rcases (h.ok j hj).from' with ⟨q', hq', e', _, eo, ee⟩ | hN
        · obtain rfl := hf.apart q hq q' hq' (e.trans e'.symm)
          exact ⟨eo.trans ho, ee⟩
        · have := (hf.lt q hq).1; omega
      have hk : q.keep = q.e := by simp [Rec.keep, hqe.1]
      have := (h.ok j hj).eL
      exact take_splice _ _ _ _ (by rw [hk]; exact hqe.2) (by rw [hrow.1]; exact this)
    · rw [h1 e]; exact ht
  · have hkg : k ≠ (rs j).g := by
      rcases (h.ok j hj).from' with ⟨q, hq, e, _⟩ | hN
      · rw [← e]; exact h2 q hq
      · omega
    exact (hg.block k (by omega) (by simpa using hkg)).trans (h.other k hk h1 h2)
end
end Go.Proofs.Qxb6600280a
