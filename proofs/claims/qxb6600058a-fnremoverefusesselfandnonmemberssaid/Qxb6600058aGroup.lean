/-
  WALKS for seat b6600058a: index (59), remove (52), ZZRemove (29), ZZMembers (31).
-/
import Derived.Test.Qxb6600058aClone
namespace Go.Proofs.Qxb6600058a
open Go.RowKit

theorem Try.cells67 : Try.prog.cellsOf 67 = 11 := by kernel_rfl

/-- BLOCK p IS A GROUP: its own name, its members, the removed, the four maps' blocks. -/
structure Grp (w : World) (p : Nat) (nm : ByteArray) (am : Option Addr) (lm cm : Nat) (ar : Option Addr) (lr cr : Nat) (mj mu me mt : Nat) : Prop where
  name : w.cell? ⟨p, 0, none⟩ = some (.string nm)
  members : w.cell? ⟨p, 2, none⟩ = some (.slice am lm cm)
  removed : w.cell? ⟨p, 3, none⟩ = some (.slice ar lr cr)
  joined : w.cell? ⟨p, 4, none⟩ = some (.map (some mj))
  unreach : w.cell? ⟨p, 8, none⟩ = some (.map (some mu))
  ended : w.cell? ⟨p, 9, none⟩ = some (.map (some me))
  parted : w.cell? ⟨p, 10, none⟩ = some (.map (some mt))

theorem Grp.lt {w : World} {p : Nat} {nm : ByteArray} {am : Option Addr} {lm cm : Nat} {ar : Option Addr} {lr cr : Nat} {mj mu me mt : Nat} (h : Grp w p nm am lm cm ar lr cr mj mu me mt) : p < w.heap.size :=
  World.block_lt_of_cell? _ _ h.name

theorem Grp.below {w w' : World} {B : Nat} {p : Nat} {nm : ByteArray} {am : Option Addr} {lm cm : Nat} {ar : Option Addr} {lr cr : Nat} {mj mu me mt : Nat} (h : Grp w p nm am lm cm ar lr cr mj mu me mt)
    (hb : Below B w w') (hB : w.heap.size ≤ B) : Grp w' p nm am lm cm ar lr cr mj mu me mt := by
  have hp : p < B := Nat.lt_of_lt_of_le h.lt hB
  exact ⟨(hb.cell (p := ⟨p, 0, none⟩) hp).trans h.name, (hb.cell (p := ⟨p, 2, none⟩) hp).trans h.members, (hb.cell (p := ⟨p, 3, none⟩) hp).trans h.removed, (hb.cell (p := ⟨p, 4, none⟩) hp).trans h.joined,
    (hb.cell (p := ⟨p, 8, none⟩) hp).trans h.unreach, (hb.cell (p := ⟨p, 9, none⟩) hp).trans h.ended, (hb.cell (p := ⟨p, 10, none⟩) hp).trans h.parted⟩

theorem members31 (w : World) (p : Nat) (a : Option Addr) (len cap : Nat) (c2 : w.cell? ⟨p, 2, none⟩ = some (.slice a len cap)) :
    Calls Try.prog 31 #[.pointer (some ⟨p, 0, none⟩)] w fun e w' => e = .returned (.slice a len cap) ∧ w' = w := by
  go_enter Try.func31, Try.ntmps31
  go_wp2
  go_ret
  exact ⟨rfl, rfl⟩

set_option maxHeartbeats 400000 in
theorem index59 (w : World) (p : Nat) (a : Option Addr) (len cap : Nat) (ss : List ByteArray) (x : ByteArray) (c2 : w.cell? ⟨p, 2, none⟩ = some (.slice a len cap)) (h : HasS w a len cap ss) (hsm : len ≤ 65536) :
    Calls Try.prog 59 #[.pointer (some ⟨p, 0, none⟩), .string x] w fun e w' => w' = w ∧ ∃ r : Int, e = .returned (.int .i64 r) ∧ Hid (x ∉ ss → r < 0) := by
  go_enter Try.func59, Try.ntmps59
  go_wp2
  go_loop [12, 5] (fun i _ => ∃ k : Nat, k ≤ len ∧ i = .int .i64 k) (fun i _ => len - (intOf i).toNat)
  case atStart => exact ⟨0, Nat.zero_le _, rfl⟩
  case round =>
    obtain ⟨k, hk, rfl⟩ := hrel
    by_cases hlt : k < len
    · obtain ⟨b, off, rfl, s, -, hm, hsz, hc⟩ := h.get hlt
      have HM : Hid (s ∈ ss) := hm
      clear hm
      by_cases heq : s = x
      · have ht : (s.toList == x.toList) = true := by simp [heq]
        have HN : Hid (x ∈ ss) := heq ▸ HM.out
        clear heq
        go_wp2
        go_ret
        exact ⟨rfl, _, rfl, fun hn => absurd HN.out hn⟩
      · have ht : (s.toList == x.toList) = false := by
          rw [beq_eq_false_iff_ne]
          exact fun e => heq (toList_inj e)
        clear heq
        go_wp2
        go_round
        case rel => exact ⟨k + 1, by omega, by go_num⟩
        case measure => simp [intOf]; omega
    · go_wp2
      go_ret
      exact ⟨rfl, -1, rfl, fun _ => by omega⟩

set_option maxHeartbeats 800000 in
theorem remove52 (w : World) (p : Nat) (self : ByteArray) (a : Option Addr) (len cap : Nat) (ss : List ByteArray) (x : ByteArray) (d : Bool)
    (c0 : w.cell? ⟨p, 0, none⟩ = some (.string self)) (c2 : w.cell? ⟨p, 2, none⟩ = some (.slice a len cap)) (h : HasS w a len cap ss) (hsm : len ≤ 65536) (hx : x = self ∨ x ∉ ss) :
    Calls Try.prog 52 #[.pointer (some ⟨p, 0, none⟩), .agg #[.string x, .bool d]] w fun e w' => e = .returned (.bool false) ∧ Below w.heap.size w w' := by
  have hp : p < w.heap.size := World.block_lt_of_cell? _ _ c0
  have hb0 : ∀ o, Below w.heap.size w (w.alloc o) := fun o => (Below.refl _ _).alloc (Nat.le_refl _) o
  go_enter Try.func52, Try.ntmps52
  go_wp2_with fail
  refine (index59 _ p a len cap ss x ?_ (h.below (hb0 _) (Nat.le_refl _)) hsm).mono ?_
  · exact ((hb0 _).cell (p := ⟨p, 2, none⟩) hp).trans c2
  rintro e w' ⟨rfl, r, rfl, hr⟩
  by_cases hneg : r < 0
  · have hd : decide (r < 0) = true := by simpa using hneg
    go_wp2
    go_quiet (fail)
    go_wp2
    go_ret
    exact ⟨rfl, below_drewN (hb0 _) _⟩
  · have hd : decide (r < 0) = false := by simpa using hneg
    obtain rfl : x = self := by
      rcases hx with hx | hx
      · exact hx
      · exact absurd (hr.out hx) hneg
    have ht : (x.toList == x.toList) = true := by simp
    go_wp2
    go_quiet (fail)
    go_wp2
    go_ret
    exact ⟨rfl, below_drewN (hb0 _) _⟩

theorem remove29 (w : World) (p : Nat) (self : ByteArray) (a : Option Addr) (len cap : Nat) (ss : List ByteArray) (x : ByteArray) (d : Bool)
    (c0 : w.cell? ⟨p, 0, none⟩ = some (.string self)) (c2 : w.cell? ⟨p, 2, none⟩ = some (.slice a len cap)) (h : HasS w a len cap ss) (hsm : len ≤ 65536) (hx : x = self ∨ x ∉ ss) :
    Calls Try.prog 29 #[.pointer (some ⟨p, 0, none⟩), .string x, .bool d] w fun e w' => e = .returned (.bool false) ∧ Below w.heap.size w w' := by
  go_enter Try.func29, Try.ntmps29
  go_wp2_with fail
  refine (remove52 w p self a len cap ss x d c0 c2 h hsm hx).mono ?_
  rintro e w' ⟨rfl, hb⟩
  go_wp2
  go_ret
  exact ⟨rfl, hb⟩
end Go.Proofs.Qxb6600058a
