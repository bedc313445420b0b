/-
  SMALL WORDS for seat b6600058a: what a walk is told of a slice; rows that are known whole.
-/
import Derived.Test.Qxb6600058aProg
import Derived.WalkKit
import Derived.WalkSpells
import Derived.Laws.CopyOwn
import Derived.Deep.QuietTactic
import Derived.BigQuiet
namespace Go.Proofs.Qxb6600058a
open Go.RowKit

/-- THE SLICE (a, len, cap) HOLDS THE VALUES vs, each of one cell. -/
structure Has (w : World) (a : Option Addr) (len cap : Nat) (vs : List Value) : Prop where
  nil : a = none → len = 0 ∧ cap = 0
  cells : ∀ ad, a = some ad → ∀ j u, vs[j]? = some u → w.cell? (ad.add j) = some u
  length : vs.length = len

theorem Has.at {w : World} {a : Option Addr} {len cap : Nat} {vs : List Value} (h : Has w a len cap vs) (hp : 0 < len) :
    ∃ b off, a = some ⟨b, off, none⟩ ∧ b < w.heap.size ∧ ∀ j v, vs[j]? = some v → w.cell? ⟨b, off + j, none⟩ = some v := by
  cases ha : a with
  | none => have := (h.nil ha).1; omega
  | some ad =>
    have h0 : ∃ v, vs[0]? = some v := by
      have : 0 < vs.length := by rw [h.length]; exact hp
      exact ⟨_, List.getElem?_eq_getElem this⟩
    obtain ⟨v0, hv0⟩ := h0
    have hc0 := h.cells ad ha 0 v0 hv0
    obtain ⟨b, off, spot⟩ := ad
    have hspot : spot = none := by simpa [Addr.add] using World.cell?_spot hc0
    subst hspot
    refine ⟨b, off, rfl, by simpa [Addr.add] using World.block_lt_of_cell? _ _ hc0, fun j v hv => ?_⟩
    have := h.cells _ ha j v hv
    rwa [Addr.add_lit] at this

theorem Has.below {w w' : World} {B : Nat} {a : Option Addr} {len cap : Nat} {vs : List Value} (h : Has w a len cap vs) (hb : Below B w w') (hB : w.heap.size ≤ B) : Has w' a len cap vs :=
  ⟨h.nil, fun ad had j u hu => by
    have hc := h.cells ad had j u hu
    exact (hb.cell (p := ad.add j) (Nat.lt_of_lt_of_le (World.block_lt_of_cell? _ _ hc) hB)).trans hc, h.length⟩

/-- A row that is known whole. -/
theorem Has.of_row {w : World} {g : Nat} {e : TypeId} {vs : List Value} (h : w.heap[g]? = some (.cells vs.toArray e (0, 0))) : Has w (some ⟨g, 0, none⟩) vs.length vs.length vs :=
  ⟨fun h => (by cases h), fun ad had j u hu => by
    obtain rfl := Option.some.inj had
    rw [Addr.add_lit]
    simp [World.cell?, h, hu], rfl⟩

theorem owns_full {w : World} {base : Nat} {e : TypeId} {g n : Nat} {xs : List Value} (h : w.ownsRow base e 1 (.slice (some ⟨g, 0, none⟩) n n) n xs) : w.heap[g]? = some (.cells xs.toArray e (0, 0)) := by
  obtain ⟨hl, h2⟩ := h
  rcases h2 with ⟨h2, _⟩ | ⟨g', cap, cur, hv, _, hh, _, _, hs, ht⟩
  · cases h2
  · cases hv
    rw [hh]
    congr 2
    apply Array.ext'
    rw [← ht, List.take_of_length_le (by simp [hs])]

theorem splice_all {α : Type} (Z X : List α) (h : Z.length = X.length) : splice Z 0 X = X := by
  simp [splice, h]

theorem getD_map_string (ss : List ByteArray) (k : Nat) (h : k < ss.length) : (ss.map Value.string)[k]? = some (.string (ss.getD k ByteArray.empty)) := by
  simp [h]
theorem getD_map_bool (ss : List Bool) (k : Nat) (h : k < ss.length) : (ss.map Value.bool)[k]? = some (.bool (ss.getD k false)) := by
  simp [h]
theorem mem_getD (ss : List ByteArray) (k : Nat) (h : k < ss.length) : ss.getD k ByteArray.empty ∈ ss := by
  simp [h]

theorem strings_oneCell (ss : List ByteArray) : ∀ u ∈ ss.map Value.string, u.oneCell' = true := by
  intro u hu
  obtain ⟨_, _, rfl⟩ := List.mem_map.1 hu
  rfl
theorem bools_oneCell (ss : List Bool) : ∀ u ∈ ss.map Value.bool, u.oneCell' = true := by
  intro u hu
  obtain ⟨_, _, rfl⟩ := List.mem_map.1 hu
  rfl

/-- A SLICE OF STRINGS. -/
def HasS (w : World) (a : Option Addr) (len cap : Nat) (ss : List ByteArray) : Prop := Has w a len cap (ss.map Value.string) ∧ ∀ s ∈ ss, s.size ≤ maxLen
theorem HasS.length {w : World} {a : Option Addr} {len cap : Nat} {ss : List ByteArray} (h : HasS w a len cap ss) : ss.length = len := by simpa using h.1.length
theorem HasS.below {w w' : World} {B : Nat} {a : Option Addr} {len cap : Nat} {ss : List ByteArray} (h : HasS w a len cap ss) (hb : Below B w w') (hB : w.heap.size ≤ B) : HasS w' a len cap ss := ⟨h.1.below hb hB, h.2⟩
/-- Its k-th string. -/
theorem HasS.get {w : World} {a : Option Addr} {len cap : Nat} {ss : List ByteArray} (h : HasS w a len cap ss) {k : Nat} (hk : k < len) :
    ∃ b off, a = some ⟨b, off, none⟩ ∧ ∃ s, s = ss.getD k ByteArray.empty ∧ s ∈ ss ∧ s.size ≤ maxLen ∧ w.cell? ⟨b, off + k, none⟩ = some (.string s) := by
  obtain ⟨b, off, ha, _, hc⟩ := h.1.at (by omega)
  have hk' : k < ss.length := by rw [h.length]; exact hk
  exact ⟨b, off, ha, _, rfl, mem_getD ss k hk', h.2 _ (mem_getD ss k hk'), hc k _ (getD_map_string ss k hk')⟩

theorem Try.info9 : (Try.prog.info? 9).map (fun i => (i.zero, i.size, i.bytes)) = some (some (.string ByteArray.empty), 1, 16) := by kernel_rfl
theorem Try.info4 : (Try.prog.info? 4).map (fun i => (i.zero, i.size, i.bytes)) = some (some (.bool false), 1, 1) := by kernel_rfl
end Go.Proofs.Qxb6600058a
