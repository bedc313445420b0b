/-
  SMALL WORDS for seat b6600280a: what a walk is told of a slice; rows that are known whole.
-/
import Derived.Test.Qxb6600280aProg
import Derived.WalkKit
import Derived.WalkSpells
import Derived.Laws.CopyOwn
import Derived.Deep.QuietTactic
import Derived.BigQuiet
import Derived.WalkSmall
namespace Go.Proofs.Qxb6600280a
open Go.RowKit

/-- THE SLICE (a, len, cap) HOLDS THE VALUES vs, each of one cell. -/
structure Has (w : World) (a : Option Addr) (len cap : Nat) (vs : List Value) : Prop where
  nil : a = none → len = 0 ∧ cap = 0
  cells : ∀ ad, a = some ad → ∀ j u, vs[j]? = some u → w.cell? (ad.add j) = some u
  length : vs.length = len

theorem Has.at {w : World} {a : Option Addr} {len cap : Nat} {vs : List Value} (h : Has w a len cap vs) (hp : 0 < len) :
    ∃ b off, a = some ⟨b, off, none⟩ ∧ b < w.heap.size ∧ ∀ j v, vs[j]? = some v → w.cell? ⟨b, off + j, none⟩ = some v := by
  cases ha : a with
  | none => have := (h.nil ha).1; omega
  | some ad =>
    have h0 : ∃ v, vs[0]? = some v := by
      have : 0 < vs.length := by rw [h.length]; exact hp
      exact ⟨_, List.getElem?_eq_getElem this⟩
    obtain ⟨v0, hv0⟩ := h0
    have hc0 := h.cells ad ha 0 v0 hv0
    obtain ⟨b, off, spot⟩ := ad
    have hspot : spot = none := by simpa [Addr.add] using World.cell?_spot hc0
    subst hspot
    refine ⟨b, off, rfl, by simpa [Addr.add] using World.block_lt_of_cell? _ _ hc0, fun j v hv => ?_⟩
    have := h.cells _ ha j v hv
    rwa [Addr.add_lit] at this

theorem Has.below {w w' : World} {B : Nat} {a : Option Addr} {len cap : Nat} {vs : List Value} (h : Has w a len cap vs) (hb : Below B w w') (hB : w.heap.size ≤ B) : Has w' a len cap vs :=
  ⟨h.nil, fun ad had j u hu => by
    have hc := h.cells ad had j u hu
    exact (hb.cell (p := ad.add j) (Nat.lt_of_lt_of_le (World.block_lt_of_cell? _ _ hc) hB)).trans hc, h.length⟩

/-- A row that is known whole. -/
theorem Has.of_row {w : World} {g : Nat} {e : TypeId} {vs : List Value} (h : w.heap[g]? = some (.cells vs.toArray e (0, 0))) : Has w (some ⟨g, 0, none⟩) vs.length vs.length vs :=
  ⟨fun h => (by cases h), fun ad had j u hu => by
    obtain rfl := Option.some.inj had
    rw [Addr.add_lit]
    simp [World.cell?, h, hu], rfl⟩

theorem owns_full {w : World} {base : Nat} {e : TypeId} {g n : Nat} {xs : List Value} (h : w.ownsRow base e 1 (.slice (some ⟨g, 0, none⟩) n n) n xs) : w.heap[g]? = some (.cells xs.toArray e (0, 0)) := by
  obtain ⟨hl, h2⟩ := h
  rcases h2 with ⟨h2, _⟩ | ⟨g', cap, cur, hv, _, hh, _, _, hs, ht⟩
  · cases h2
  · cases hv
    rw [hh]
    congr 2
    apply Array.ext'
    rw [← ht, List.take_of_length_le (by simp [hs])]

theorem splice_all {α : Type} (Z X : List α) (h : Z.length = X.length) : splice Z 0 X = X := by
  simp [splice, h]


/-- A SLICE OF INTEGERS of kind q. -/
def HasI (q : IntKind) (w : World) (a : Option Addr) (len cap : Nat) (zs : List Int) : Prop := Has w a len cap (zs.map (Value.int q))
theorem HasI.length {q : IntKind} {w : World} {a : Option Addr} {len cap : Nat} {zs : List Int} (h : HasI q w a len cap zs) : zs.length = len := by simpa using Has.length h
theorem HasI.below {q : IntKind} {w w' : World} {B : Nat} {a : Option Addr} {len cap : Nat} {zs : List Int} (h : HasI q w a len cap zs) (hb : Below B w w') (hB : w.heap.size ≤ B) : HasI q w' a len cap zs := Has.below h hb hB
theorem getD_map_int (q : IntKind) (zs : List Int) (k : Nat) (h : k < zs.length) : (zs.map (Value.int q))[k]? = some (.int q (zs.getD k 0)) := by
  simp [h]
theorem HasI.get {q : IntKind} {w : World} {a : Option Addr} {len cap : Nat} {zs : List Int} (h : HasI q w a len cap zs) {k : Nat} (hk : k < len) :
    ∃ b off, a = some ⟨b, off, none⟩ ∧ b < w.heap.size ∧ w.cell? ⟨b, off + k, none⟩ = some (.int q (zs.getD k 0)) := by
  obtain ⟨b, off, ha, hb, hc⟩ := Has.at h (by omega)
  exact ⟨b, off, ha, hb, hc k _ (getD_map_int q zs k (by rw [h.length]; exact hk))⟩

theorem getD_map_bool (ss : List Bool) (k : Nat) (h : k < ss.length) : (ss.map Value.bool)[k]? = some (.bool (ss.getD k false)) := by
  simp [h]
/-- A SLICE OF BOOLS. -/
def HasB (w : World) (a : Option Addr) (len cap : Nat) (bs : List Bool) : Prop := Has w a len cap (bs.map Value.bool)
theorem HasB.length {w : World} {a : Option Addr} {len cap : Nat} {ss : List Bool} (h : HasB w a len cap ss) : ss.length = len := by simpa using Has.length h
theorem HasB.below {w w' : World} {B : Nat} {a : Option Addr} {len cap : Nat} {ss : List Bool} (h : HasB w a len cap ss) (hb : Below B w w') (hB : w.heap.size ≤ B) : HasB w' a len cap ss := Has.below h hb hB
theorem HasB.get {w : World} {a : Option Addr} {len cap : Nat} {ss : List Bool} (h : HasB w a len cap ss) {k : Nat} (hk : k < len) :
    ∃ b off, a = some ⟨b, off, none⟩ ∧ w.cell? ⟨b, off + k, none⟩ = some (.bool (ss.getD k false)) := by
  obtain ⟨b, off, ha, _, hc⟩ := Has.at h (by omega)
  exact ⟨b, off, ha, hc k _ (getD_map_bool ss k (by rw [h.length]; exact hk))⟩

/-- It answers true or false. -/
def SomeBool (e : Ending) : Prop := ∃ b, e = .returned (.bool b)

theorem Try.info5 : (Try.prog.info? 5).map (fun i => (i.zero, i.size, i.bytes)) = some (some (.int .u8 0), 1, 1) := by kernel_rfl
theorem Try.info3 : (Try.prog.info? 3).map (fun i => (i.zero, i.size, i.bytes)) = some (some (.int .i64 0), 1, 8) := by kernel_rfl
theorem Try.info22 : (Try.prog.info? 22).map (fun i => (i.zero, i.size, i.bytes)) = some (some (.slice none 0 0), 1, 24) := by kernel_rfl
theorem Try.info59 : (Try.prog.info? 59).map (fun i => (i.zero, i.size, i.bytes)) = some (some (.agg #[.slice none 0 0, .int .i64 0, .int .i64 0, .int .i64 0, .bool false]), 5, 56) := by kernel_rfl
end Go.Proofs.Qxb6600280a
