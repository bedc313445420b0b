/-
  THE MEMORY OF components for seat b6600314a: ten blocks known whole, and two rows that append has made.
-/
import Derived.Test.Qxb6600314aProg
import Derived.WalkKit
import Derived.WalkSpells
import Derived.OwnWalk
import Derived.Below
import Derived.Laws.OwnMore
import Derived.Deep.QuietTactic
import Derived.BigQuiet
import Derived.WalkSmall
import Derived.Deep.DeepCutAuto
import Derived.Deep.AppendLies
import Derived.Deep.OwnRows
import Derived.Test.Qxb6600314aTarjan
namespace Go.Proofs.Qxb6600314a
open Go.RowKit
set_option linter.unusedVariables false

def ints (S : List Nat) : List Value := S.map fun (v : Nat) => Value.int .i64 (v : Int)
def irow (n : Nat) (f : Nat → Nat) : Array Value := (ints ((List.range n).map f)).toArray
def brow (n : Nat) (p : Nat → Bool) : Array Value := ((List.range n).map fun v => Value.bool (p v)).toArray
def calls (C : List (Nat × Nat)) : List Value := C.flatMap fun p => [.int .i64 (p.1 : Int), .int .i64 (p.2 : Int)]

/-- The ten blocks. -/
structure Fx where
  n : Nat
  o : Nat → Nat
  l : Nat → Nat
  k : Nat → Bool
  c : Nat → Nat
  met : Nat
  v1 : Value
  v2 : Value
def Fx.obj (x : Fx) (N : Nat) : Nat → Obj
  | 0 => .cells (irow x.n x.o) 3 (0, 0)
  | 1 => .cells #[.slice (some ⟨N, 0, none⟩) x.n x.n] 25 (0, 0)
  | 2 => .cells (irow x.n x.l) 3 (0, 0)
  | 3 => .cells #[.slice (some ⟨N + 2, 0, none⟩) x.n x.n] 25 (0, 0)
  | 4 => .cells (brow x.n x.k) 4 (0, 0)
  | 5 => .cells #[.slice (some ⟨N + 4, 0, none⟩) x.n x.n] 33 (0, 0)
  | 6 => .cells (irow x.n x.c) 3 (0, 0)
  | 7 => .cells #[x.v1] 25 (0, 0)
  | 8 => .cells #[.int .i64 (x.met : Int)] 3 (0, 0)
  | _ => .cells #[x.v2] 36 (0, 0)

structure Mem (w wr : World) (x : Fx) (S : List Nat) (C : List (Nat × Nat)) : Prop where
  below : Below w.heap.size w wr
  blk : ∀ i, i < 10 → wr.heap[w.heap.size + i]? = some (x.obj w.heap.size i)
  st : wr.ownsRow (w.heap.size + 10) 3 1 x.v1 S.length (ints S)
  ca : wr.ownsRow (w.heap.size + 10) 38 2 x.v2 C.length (calls C)
  ne : ∀ g, x.v1.ownBlock = some g → x.v2.ownBlock ≠ some g

theorem owns_block {w w' : World} {base : Nat} {e : TypeId} {size : Nat} {v : Value} {n : Nat} {xs : List Value} (h : w.ownsRow base e size v n xs) (hb : ∀ g, v.ownBlock = some g → g < w.heap.size → w'.heap[g]? = w.heap[g]?) : w'.ownsRow base e size v n xs := by
  refine ⟨h.1, ?_⟩
  rcases h.2 with hn | ⟨g, cap, cur, rfl, hb', hgg, rest⟩
  · exact .inl hn
  · refine .inr ⟨g, cap, cur, rfl, hb', ?_, rest⟩
    rw [hb g rfl (Array.getElem?_eq_some_iff.1 hgg).1]
    exact hgg

theorem heap_setCell_same {w : World} {b i : Nat} {cs : Array Value} {t : TypeId} {fr : Nat × Nat} (h : w.heap[b]? = some (.cells cs t fr)) (v : Value) : (w.setCell ⟨b, i, none⟩ v).heap[b]? = some (.cells (cs.setIfInBounds i v) t fr) := by
  simp [World.setCell, Array.getElem?_modify, h]

section
variable {w wr : World} {x : Fx} {S : List Nat} {C : List (Nat × Nat)}

theorem Mem.szs (h : Mem w wr x S C) : w.heap.size + 10 ≤ wr.heap.size := by
  have := (Array.getElem?_eq_some_iff.1 (h.blk 9 (by omega))).1
  omega

/-- One of the ten blocks is written. -/
theorem Mem.set (h : Mem w wr x S C) {i j : Nat} (hi : i < 10) {u : Value} {x' : Fx} (hx : ∀ q, q < 10 → q ≠ i → x'.obj w.heap.size q = x.obj w.heap.size q) (hv1 : x'.v1 = x.v1) (hv2 : x'.v2 = x.v2)
    (hn : (wr.setCell ⟨w.heap.size + i, j, none⟩ u).heap[w.heap.size + i]? = some (x'.obj w.heap.size i)) : Mem w (wr.setCell ⟨w.heap.size + i, j, none⟩ u) x' S C := by
  have hs := h.szs
  have hb : ∀ k, k ≠ w.heap.size + i → (wr.setCell ⟨w.heap.size + i, j, none⟩ u).heap[k]? = wr.heap[k]? := fun k hk => Below.heap_setCell _ _ _ _ hk
  refine ⟨h.below.setCell (by simp) _, fun q hq => ?_, ?_, ?_, ?_⟩
  · by_cases e : q = i
    · subst e; exact hn
    · rw [hb _ (by omega), hx q hq e]; exact h.blk q hq
  · rw [hv1]
    exact owns_block h.st fun g hg hlt => hb g (by have := (h.st.lt g hg).1; omega)
  · rw [hv2]
    exact owns_block h.ca fun g hg hlt => hb g (by have := (h.ca.lt g hg).1; omega)
  · rw [hv1, hv2]; exact h.ne
end
end Go.Proofs.Qxb6600314a
