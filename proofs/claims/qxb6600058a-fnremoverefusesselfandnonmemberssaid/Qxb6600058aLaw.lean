/-
  WALK for seat b6600058a: FnRemoveRefusesSelfAndNonMembers (6).
-/
import Derived.Test.Qxb6600058aBytes
import Derived.Test.Qxb6600058aKept
import Derived.Test.Qxb6600058aNew
namespace Go.Proofs.Qxb6600058a
open Go.RowKit

theorem Built.grp {w wr : World} {nm : ByteArray} {am : Option Addr} {lm cm : Nat} {ar : Option Addr} {lr cr : Nat} {n : Nat} {ex : List (ByteArray × Bool)} {J U E T : List ByteArray} (h : Built w wr nm (.slice am lm cm) (.slice ar lr cr) n ex J U E T) :
    Grp wr (w.heap.size + 5) nm am lm cm ar lr cr w.heap.size (w.heap.size + 2) (w.heap.size + 3) (w.heap.size + 4) :=
  ⟨h.cell 0, h.cell 2, h.cell 3, h.cell 4, h.cell 8, h.cell 9, h.cell 10⟩

theorem Built.sets {w wr : World} {nm : ByteArray} {mv rv : Value} {n : Nat} {ex : List (ByteArray × Bool)} {J U E T : List ByteArray} (h : Built w wr nm mv rv n ex J U E T) :
    Sets wr w.heap.size (w.heap.size + 2) (w.heap.size + 3) (w.heap.size + 4) J U E T := ⟨h.j, h.u, h.e, h.t⟩

theorem Built.exits {w wr : World} {nm : ByteArray} {mv : Value} {ar : Option Addr} {n cr : Nat} {ex : List (ByteArray × Bool)} {J U E T : List ByteArray} (h : Built w wr nm mv (.slice ar n cr) n ex J U E T)
    (hl : ex.length = n) (hs : ∀ x ∈ ex, x.1.size ≤ maxLen) : HasE wr ar n cr ex := by
  refine ⟨hl, fun k hk => ?_, hs⟩
  obtain ⟨h1, h2⟩ := h.own
  rcases h2 with ⟨_, h0⟩ | ⟨g, cap, cur, hv, _, hh, _, _, _, ht⟩
  · omega
  · cases hv
    have hat := flat_at ex k (by omega)
    have hc : ∀ j v, (flat ex)[j]? = some v → wr.cell? ⟨g, j, none⟩ = some v := fun j v hj => by
      rw [cell_of_row wr g j cur 75 (0, 0) hh]
      rw [← ht, List.getElem?_take] at hj
      split at hj
      · simpa using hj
      · cases hj
    exact ⟨g, rfl, hc _ _ hat.1, hc _ _ hat.2⟩

set_option maxRecDepth 100000 in
set_option maxHeartbeats 4000000 in
theorem law_walk (w : World) (nm addr : ByteArray) (down : Bool) (l0 : nm.size ≤ maxLen) (l8 : addr.size ≤ maxLen)
    (a1 : Option Addr) (len1 cap1 : Nat) (s1 : List ByteArray) (h1 : HasS w a1 len1 cap1 s1) (l1 : len1 ≤ maxLen)
    (a2 : Option Addr) (len2 cap2 : Nat) (s2 : List ByteArray) (h2 : HasS w a2 len2 cap2 s2) (l2 : len2 ≤ maxLen)
    (a3 : Option Addr) (len3 cap3 : Nat) (b3 : List Bool) (h3 : HasB w a3 len3 cap3 b3) (l3 : len3 ≤ maxLen)
    (a4 : Option Addr) (len4 cap4 : Nat) (s4 : List ByteArray) (h4 : HasS w a4 len4 cap4 s4) (l4 : len4 ≤ maxLen)
    (a5 : Option Addr) (len5 cap5 : Nat) (s5 : List ByteArray) (h5 : HasS w a5 len5 cap5 s5) (l5 : len5 ≤ maxLen)
    (a6 : Option Addr) (len6 cap6 : Nat) (s6 : List ByteArray) (h6 : HasS w a6 len6 cap6 s6) (l6 : len6 ≤ maxLen)
    (a7 : Option Addr) (len7 cap7 : Nat) (s7 : List ByteArray) (h7 : HasS w a7 len7 cap7 s7) (l7 : len7 ≤ maxLen) :
    Calls Try.prog 6 #[.string nm, .slice a1 len1 cap1, .slice a2 len2 cap2, .slice a3 len3 cap3, .slice a4 len4 cap4, .slice a5 len5 cap5, .slice a6 len6 cap6, .slice a7 len7 cap7, .string addr, .bool down] w
      fun e w' => e = .returned (.bool true) ∧ Below w.heap.size w w' := by
  go_enter Try.func6, Try.ntmps6
  go_wp2_with fail
  refine (bytes21 w nm addr down a1 len1 cap1 s1 h1 l1 a2 len2 cap2 s2 h2 l2 a4 len4 cap4 s4 h4 l4 a5 len5 cap5 s5 h5 l5 a6 len6 cap6 s6 h6 l6 a7 len7 cap7 s7 h7 l7 a3 len3 cap3 l3 l0 l8).mono ?_
  rintro e w' ⟨⟨b, rfl⟩, rfl⟩
  cases b
  · go_wp2_with fail
    go_ret
    exact ⟨rfl, Below.refl _ _⟩
  go_wp2_with fail
  refine (spend22 w' 1048576 nm (by omega) (by omega) l0).mono ?_
  rintro e w1 ⟨rfl, r1, rfl, hr1, hr1', hr1p⟩
  go_wp2_with fail
  refine (spend23 _ r1 a1 len1 cap1 s1 h1 hr1 hr1' l1).mono ?_
  rintro e w1 ⟨rfl, r2, rfl, hr2, hr2', hr2p⟩
  go_wp2_with fail
  refine (spend23 _ r2 a2 len2 cap2 s2 h2 hr2 (by omega) l2).mono ?_
  rintro e w1 ⟨rfl, r3, rfl, hr3, hr3', hr3p⟩
  go_wp2_with fail
  refine (spend24 _ r3 a3 len3 cap3 hr3 (by omega) l3).mono ?_
  rintro e w1 ⟨rfl, r4, rfl, hr4, hr4', hr4p⟩
  go_wp2_with fail
  refine (spend23 _ r4 a4 len4 cap4 s4 h4 hr4 (by omega) l4).mono ?_
  rintro e w1 ⟨rfl, r5, rfl, hr5, hr5', hr5p⟩
  go_wp2_with fail
  refine (spend23 _ r5 a5 len5 cap5 s5 h5 hr5 (by omega) l5).mono ?_
  rintro e w1 ⟨rfl, r6, rfl, hr6, hr6', hr6p⟩
  go_wp2_with fail
  refine (spend23 _ r6 a6 len6 cap6 s6 h6 hr6 (by omega) l6).mono ?_
  rintro e w1 ⟨rfl, r7, rfl, hr7, hr7', hr7p⟩
  go_wp2_with fail
  refine (spend23 _ r7 a7 len7 cap7 s7 h7 hr7 (by omega) l7).mono ?_
  rintro e w1 ⟨rfl, r8, rfl, hr8, hr8', hr8p⟩
  go_wp2_with fail
  refine (spend22 _ r8 addr hr8 (by omega) l8).mono ?_
  rintro e w1 ⟨rfl, r9, rfl, hr9, hr9', hr9p⟩
  by_cases hneg : r9 < 0
  · go_wp2_with fail
    go_ret
    exact ⟨rfl, Below.refl _ _⟩
  have m1 : len1 ≤ 65536 := by omega
  have m2 : len2 ≤ 65536 := by omega
  have m3 : len3 ≤ 1048576 := by omega
  have m4 : len4 ≤ 65536 := by omega
  have m5 : len5 ≤ 65536 := by omega
  have m6 : len6 ≤ 65536 := by omega
  have m7 : len7 ≤ 65536 := by omega
  have hneg' : 0 ≤ r9 := by omega
  clear hr1 hr1' hr1p hr2 hr2' hr2p hr3 hr3' hr3p hr4 hr4' hr4p hr5 hr5' hr5p hr6 hr6' hr6p hr7 hr7' hr7p hr8 hr8' hr8p hr9 hr9' hr9p hneg l1 l2 l3 l4 l5 l6 l7
  by_cases heq : len2 = len3
  case neg =>
    have hne : ((len2 : Int) != (len3 : Int)) = true := by simp; omega
    go_wp2_with fail
    go_ret
    exact ⟨rfl, Below.refl _ _⟩
  subst heq
  have hne : ((len2 : Int) != (len2 : Int)) = false := by simp
  -- REST
  by_cases hself : addr = nm
  case' pos =>
    have hx : addr = nm ∨ addr ∉ s1 := .inl hself
    have ht : addr.toList = nm.toList := by rw [hself]
    clear hself
    go_wp2_with fail
  case' neg =>
    have ht : ¬ addr.toList = nm.toList := fun e => hself (toList_inj e)
    have ht2 : (addr.toList == nm.toList) = false := beq_eq_false_iff_ne.2 ht
    clear hself
    go_wp2_with fail
    refine (count25 _ a1 len1 cap1 s1 addr h1 (by unfold maxLen; omega)).mono ?_
    rintro e wx ⟨hwx, r, rfl, hr⟩
    obtain rfl : w1 = wx := hwx.symm
    clear hwx
    by_cases hpos : 0 < r
    · go_wp2_with fail
      go_ret
      exact ⟨rfl, Below.refl _ _⟩
    have hx : addr = nm ∨ addr ∉ s1 := .inr (hr hpos)
    clear hr
    go_wp2_with fail
    clear ht2
  all_goals
    have H0 : Hid _ := hx
    clear hx ht
    refine (clone26 _ a1 len1 cap1 s1 h1 m1).mono ?_
    rintro e w2 ⟨x1, y1, rfl, g1, hb⟩
    replace h2 := h2.below hb (Nat.le_refl _)
    replace h3 := h3.below hb (Nat.le_refl _)
    replace h4 := h4.below hb (Nat.le_refl _)
    replace h5 := h5.below hb (Nat.le_refl _)
    replace h6 := h6.below hb (Nat.le_refl _)
    replace h7 := h7.below hb (Nat.le_refl _)
    have hB := hb
    clear hb
    go_wp2_with fail
    refine (clone26 _ a2 len2 cap2 s2 h2 m2).mono ?_
    rintro e w3 ⟨x2, y2, rfl, g2, hb⟩
    replace h3 := h3.below hb (Nat.le_refl _)
    replace h4 := h4.below hb (Nat.le_refl _)
    replace h5 := h5.below hb (Nat.le_refl _)
    replace h6 := h6.below hb (Nat.le_refl _)
    replace h7 := h7.below hb (Nat.le_refl _)
    replace g1 := g1.below hb (Nat.le_refl _)
    replace hB := hB.trans (hb.mono hB.size)
    clear hb
    go_wp2_with fail
    refine (clone27 _ a3 len2 cap3 b3 h3 m3).mono ?_
    rintro e w4 ⟨x3, y3, rfl, g3, hb⟩
    replace h4 := h4.below hb (Nat.le_refl _)
    replace h5 := h5.below hb (Nat.le_refl _)
    replace h6 := h6.below hb (Nat.le_refl _)
    replace h7 := h7.below hb (Nat.le_refl _)
    replace g1 := g1.below hb (Nat.le_refl _)
    replace g2 := g2.below hb (Nat.le_refl _)
    replace hB := hB.trans (hb.mono hB.size)
    clear hb
    go_wp2_with fail
    refine (clone26 _ a4 len4 cap4 s4 h4 m4).mono ?_
    rintro e w5 ⟨x4, y4, rfl, g4, hb⟩
    replace h5 := h5.below hb (Nat.le_refl _)
    replace h6 := h6.below hb (Nat.le_refl _)
    replace h7 := h7.below hb (Nat.le_refl _)
    replace g1 := g1.below hb (Nat.le_refl _)
    replace g2 := g2.below hb (Nat.le_refl _)
    replace g3 := g3.below hb (Nat.le_refl _)
    replace hB := hB.trans (hb.mono hB.size)
    clear hb
    go_wp2_with fail
    refine (clone26 _ a5 len5 cap5 s5 h5 m5).mono ?_
    rintro e w6 ⟨x5, y5, rfl, g5, hb⟩
    replace h6 := h6.below hb (Nat.le_refl _)
    replace h7 := h7.below hb (Nat.le_refl _)
    replace g1 := g1.below hb (Nat.le_refl _)
    replace g2 := g2.below hb (Nat.le_refl _)
    replace g3 := g3.below hb (Nat.le_refl _)
    replace g4 := g4.below hb (Nat.le_refl _)
    replace hB := hB.trans (hb.mono hB.size)
    clear hb
    go_wp2_with fail
    refine (clone26 _ a6 len6 cap6 s6 h6 m6).mono ?_
    rintro e w7 ⟨x6, y6, rfl, g6, hb⟩
    replace h7 := h7.below hb (Nat.le_refl _)
    replace g1 := g1.below hb (Nat.le_refl _)
    replace g2 := g2.below hb (Nat.le_refl _)
    replace g3 := g3.below hb (Nat.le_refl _)
    replace g4 := g4.below hb (Nat.le_refl _)
    replace g5 := g5.below hb (Nat.le_refl _)
    replace hB := hB.trans (hb.mono hB.size)
    clear hb
    go_wp2_with fail
    refine (clone26 _ a7 len7 cap7 s7 h7 m7).mono ?_
    rintro e w8 ⟨x7, y7, rfl, g7, hb⟩
    replace g1 := g1.below hb (Nat.le_refl _)
    replace g2 := g2.below hb (Nat.le_refl _)
    replace g3 := g3.below hb (Nat.le_refl _)
    replace g4 := g4.below hb (Nat.le_refl _)
    replace g5 := g5.below hb (Nat.le_refl _)
    replace g6 := g6.below hb (Nat.le_refl _)
    replace hB := hB.trans (hb.mono hB.size)
    clear hb
    go_wp2_with fail
    refine (clone26 _ x1 len1 y1 s1 g1 m1).mono ?_
    rintro e w9 ⟨xP, yP, rfl, gP, hb⟩
    replace g1 := g1.below hb (Nat.le_refl _)
    replace g2 := g2.below hb (Nat.le_refl _)
    replace g3 := g3.below hb (Nat.le_refl _)
    replace g4 := g4.below hb (Nat.le_refl _)
    replace g5 := g5.below hb (Nat.le_refl _)
    replace g6 := g6.below hb (Nat.le_refl _)
    replace g7 := g7.below hb (Nat.le_refl _)
    replace hB := hB.trans (hb.mono hB.size)
    clear hb
    go_wp2_with fail
    refine (new28 w9 nm xP len1 yP x2 len2 y2 s2 g2 x3 y3 b3 g3 m2 x4 len4 y4 s4 g4 m4 x5 len5 y5 s5 g5 m5 x6 len6 y6 s6 g6 m6 x7 len7 y7 s7 g7 m7).mono ?_
    rintro e w10 ⟨rfl, arP, crP, hT⟩
    have hb := hT.below
    have GP := hT.grp
    have SP := hT.sets
    have EP := hT.exits (by simp [g2.length, g3.length]) (fun x hx => g2.2 _ (List.of_mem_zip hx).1)
    clear hT
    replace g1 := g1.below hb (Nat.le_refl _)
    replace g2 := g2.below hb (Nat.le_refl _)
    replace g3 := g3.below hb (Nat.le_refl _)
    replace g4 := g4.below hb (Nat.le_refl _)
    replace g5 := g5.below hb (Nat.le_refl _)
    replace g6 := g6.below hb (Nat.le_refl _)
    replace g7 := g7.below hb (Nat.le_refl _)
    replace gP := gP.below hb (Nat.le_refl _)
    replace hB := hB.trans (hb.mono hB.size)
    clear hb
    go_wp2_with fail
    refine (clone26 _ x1 len1 y1 s1 g1 m1).mono ?_
    rintro e w11 ⟨xQ, yQ, rfl, gQ, hb⟩
    replace g1 := g1.below hb (Nat.le_refl _)
    replace g2 := g2.below hb (Nat.le_refl _)
    replace g3 := g3.below hb (Nat.le_refl _)
    replace g4 := g4.below hb (Nat.le_refl _)
    replace g5 := g5.below hb (Nat.le_refl _)
    replace g6 := g6.below hb (Nat.le_refl _)
    replace g7 := g7.below hb (Nat.le_refl _)
    replace gP := gP.below hb (Nat.le_refl _)
    replace GP := GP.below hb (Nat.le_refl _)
    replace SP := SP.below hb (Nat.le_refl _)
    replace EP := EP.below hb (Nat.le_refl _)
    replace hB := hB.trans (hb.mono hB.size)
    clear hb
    go_wp2_with fail
    refine (new28 w11 nm xQ len1 yQ x2 len2 y2 s2 g2 x3 y3 b3 g3 m2 x4 len4 y4 s4 g4 m4 x5 len5 y5 s5 g5 m5 x6 len6 y6 s6 g6 m6 x7 len7 y7 s7 g7 m7).mono ?_
    rintro e w12 ⟨rfl, arQ, crQ, hT⟩
    have hb := hT.below
    have GQ := hT.grp
    have SQ := hT.sets
    have EQ := hT.exits (by simp [g2.length, g3.length]) (fun x hx => g2.2 _ (List.of_mem_zip hx).1)
    clear hT
    replace g1 := g1.below hb (Nat.le_refl _)
    replace g2 := g2.below hb (Nat.le_refl _)
    replace g3 := g3.below hb (Nat.le_refl _)
    replace g4 := g4.below hb (Nat.le_refl _)
    replace g5 := g5.below hb (Nat.le_refl _)
    replace g6 := g6.below hb (Nat.le_refl _)
    replace g7 := g7.below hb (Nat.le_refl _)
    replace gP := gP.below hb (Nat.le_refl _)
    replace GP := GP.below hb (Nat.le_refl _)
    replace SP := SP.below hb (Nat.le_refl _)
    replace EP := EP.below hb (Nat.le_refl _)
    replace gQ := gQ.below hb (Nat.le_refl _)
    replace hB := hB.trans (hb.mono hB.size)
    clear hb
    go_wp2_with fail
    refine (remove29 _ _ nm xP len1 yP s1 addr down GP.name GP.members gP m1 H0.out).mono ?_
    rintro e w13 ⟨rfl, hb⟩
    replace g1 := g1.below hb (Nat.le_refl _)
    replace g2 := g2.below hb (Nat.le_refl _)
    replace g3 := g3.below hb (Nat.le_refl _)
    replace g4 := g4.below hb (Nat.le_refl _)
    replace g5 := g5.below hb (Nat.le_refl _)
    replace g6 := g6.below hb (Nat.le_refl _)
    replace g7 := g7.below hb (Nat.le_refl _)
    replace gP := gP.below hb (Nat.le_refl _)
    replace GP := GP.below hb (Nat.le_refl _)
    replace SP := SP.below hb (Nat.le_refl _)
    replace EP := EP.below hb (Nat.le_refl _)
    replace gQ := gQ.below hb (Nat.le_refl _)
    replace GQ := GQ.below hb (Nat.le_refl _)
    replace SQ := SQ.below hb (Nat.le_refl _)
    replace EQ := EQ.below hb (Nat.le_refl _)
    replace hB := hB.trans (hb.mono hB.size)
    clear hb
    go_wp2_with fail
    refine (members31 _ _ xP len1 yP GP.members).mono ?_
    rintro e wm ⟨rfl, hwm⟩
    obtain rfl : w13 = wm := hwm.symm
    go_wp2_with fail
    refine (equal30 _ xP len1 yP x1 y1 s1 gP g1 m1).mono ?_
    rintro e w14 ⟨rfl, hb⟩
    replace g1 := g1.below hb (Nat.le_refl _)
    replace g2 := g2.below hb (Nat.le_refl _)
    replace g3 := g3.below hb (Nat.le_refl _)
    replace g4 := g4.below hb (Nat.le_refl _)
    replace g5 := g5.below hb (Nat.le_refl _)
    replace g6 := g6.below hb (Nat.le_refl _)
    replace g7 := g7.below hb (Nat.le_refl _)
    replace gP := gP.below hb (Nat.le_refl _)
    replace GP := GP.below hb (Nat.le_refl _)
    replace SP := SP.below hb (Nat.le_refl _)
    replace EP := EP.below hb (Nat.le_refl _)
    replace gQ := gQ.below hb (Nat.le_refl _)
    replace GQ := GQ.below hb (Nat.le_refl _)
    replace SQ := SQ.below hb (Nat.le_refl _)
    replace EQ := EQ.below hb (Nat.le_refl _)
    replace hB := hB.trans (hb.mono hB.size)
    clear hb
    go_wp2_with fail
    refine (addrs32 _ _ arP len2 crP _ GP.removed EP m2).mono ?_
    rintro e w15 ⟨xa, ya, rfl, gA, hb⟩
    replace g1 := g1.below hb (Nat.le_refl _)
    replace g2 := g2.below hb (Nat.le_refl _)
    replace g3 := g3.below hb (Nat.le_refl _)
    replace g4 := g4.below hb (Nat.le_refl _)
    replace g5 := g5.below hb (Nat.le_refl _)
    replace g6 := g6.below hb (Nat.le_refl _)
    replace g7 := g7.below hb (Nat.le_refl _)
    replace gP := gP.below hb (Nat.le_refl _)
    replace GP := GP.below hb (Nat.le_refl _)
    replace SP := SP.below hb (Nat.le_refl _)
    replace EP := EP.below hb (Nat.le_refl _)
    replace gQ := gQ.below hb (Nat.le_refl _)
    replace GQ := GQ.below hb (Nat.le_refl _)
    replace SQ := SQ.below hb (Nat.le_refl _)
    replace EQ := EQ.below hb (Nat.le_refl _)
    replace hB := hB.trans (hb.mono hB.size)
    clear hb
    have hz1 : (s2.zip b3).map Prod.fst = s2 := List.map_fst_zip (by simp [g2.length, g3.length])
    rw [hz1] at gA
    clear hz1
    go_wp2_with fail
    refine (equal30 _ xa len2 ya x2 y2 s2 gA g2 m2).mono ?_
    rintro e w16 ⟨rfl, hb⟩
    clear gA
    replace g1 := g1.below hb (Nat.le_refl _)
    replace g2 := g2.below hb (Nat.le_refl _)
    replace g3 := g3.below hb (Nat.le_refl _)
    replace g4 := g4.below hb (Nat.le_refl _)
    replace g5 := g5.below hb (Nat.le_refl _)
    replace g6 := g6.below hb (Nat.le_refl _)
    replace g7 := g7.below hb (Nat.le_refl _)
    replace gP := gP.below hb (Nat.le_refl _)
    replace GP := GP.below hb (Nat.le_refl _)
    replace SP := SP.below hb (Nat.le_refl _)
    replace EP := EP.below hb (Nat.le_refl _)
    replace gQ := gQ.below hb (Nat.le_refl _)
    replace GQ := GQ.below hb (Nat.le_refl _)
    replace SQ := SQ.below hb (Nat.le_refl _)
    replace EQ := EQ.below hb (Nat.le_refl _)
    replace hB := hB.trans (hb.mono hB.size)
    clear hb
    go_wp2_with fail
    refine (downs34 _ _ arP len2 crP _ GP.removed EP m2).mono ?_
    rintro e w17 ⟨xb, yb, rfl, gB, hb⟩
    replace g1 := g1.below hb (Nat.le_refl _)
    replace g2 := g2.below hb (Nat.le_refl _)
    replace g3 := g3.below hb (Nat.le_refl _)
    replace g4 := g4.below hb (Nat.le_refl _)
    replace g5 := g5.below hb (Nat.le_refl _)
    replace g6 := g6.below hb (Nat.le_refl _)
    replace g7 := g7.below hb (Nat.le_refl _)
    replace gP := gP.below hb (Nat.le_refl _)
    replace GP := GP.below hb (Nat.le_refl _)
    replace SP := SP.below hb (Nat.le_refl _)
    replace EP := EP.below hb (Nat.le_refl _)
    replace gQ := gQ.below hb (Nat.le_refl _)
    replace GQ := GQ.below hb (Nat.le_refl _)
    replace SQ := SQ.below hb (Nat.le_refl _)
    replace EQ := EQ.below hb (Nat.le_refl _)
    replace hB := hB.trans (hb.mono hB.size)
    clear hb
    have hz1 : (s2.zip b3).map Prod.snd = b3 := List.map_snd_zip (by simp [g2.length, g3.length])
    rw [hz1] at gB
    clear hz1
    go_wp2_with fail
    refine (equal33 _ xb len2 yb x3 y3 b3 gB g3 m3).mono ?_
    rintro e w18 ⟨rfl, hb⟩
    clear gB
    replace g1 := g1.below hb (Nat.le_refl _)
    replace g2 := g2.below hb (Nat.le_refl _)
    replace g3 := g3.below hb (Nat.le_refl _)
    replace g4 := g4.below hb (Nat.le_refl _)
    replace g5 := g5.below hb (Nat.le_refl _)
    replace g6 := g6.below hb (Nat.le_refl _)
    replace g7 := g7.below hb (Nat.le_refl _)
    replace gP := gP.below hb (Nat.le_refl _)
    replace GP := GP.below hb (Nat.le_refl _)
    replace SP := SP.below hb (Nat.le_refl _)
    replace EP := EP.below hb (Nat.le_refl _)
    replace gQ := gQ.below hb (Nat.le_refl _)
    replace GQ := GQ.below hb (Nat.le_refl _)
    replace SQ := SQ.below hb (Nat.le_refl _)
    replace EQ := EQ.below hb (Nat.le_refl _)
    replace hB := hB.trans (hb.mono hB.size)
    clear hb
    go_wp2_with fail
    refine (kept35 _ _ _ _ _ _ _ _ s4 s5 s6 s7 x4 len4 y4 g4 m4 x5 len5 y5 g5 m5 x6 len6 y6 g6 m6 x7 len7 y7 g7 m7 GP.joined GP.unreach GP.ended GP.parted SP).mono ?_
    rintro e w19 ⟨rfl, hb⟩
    replace g1 := g1.below hb (Nat.le_refl _)
    replace g2 := g2.below hb (Nat.le_refl _)
    replace g3 := g3.below hb (Nat.le_refl _)
    replace g4 := g4.below hb (Nat.le_refl _)
    replace g5 := g5.below hb (Nat.le_refl _)
    replace g6 := g6.below hb (Nat.le_refl _)
    replace g7 := g7.below hb (Nat.le_refl _)
    replace gP := gP.below hb (Nat.le_refl _)
    replace GP := GP.below hb (Nat.le_refl _)
    replace SP := SP.below hb (Nat.le_refl _)
    replace EP := EP.below hb (Nat.le_refl _)
    replace gQ := gQ.below hb (Nat.le_refl _)
    replace GQ := GQ.below hb (Nat.le_refl _)
    replace SQ := SQ.below hb (Nat.le_refl _)
    replace EQ := EQ.below hb (Nat.le_refl _)
    replace hB := hB.trans (hb.mono hB.size)
    clear hb
    go_wp2_with fail
    refine (sizes36 _ _ _ _ _ _ _ _ _ _ _ s4 s5 s6 s7 GP.joined GP.unreach GP.ended GP.parted GQ.joined GQ.unreach GQ.ended GQ.parted SP SQ).mono ?_
    rintro e w20 ⟨rfl, hb⟩
    replace g1 := g1.below hb (Nat.le_refl _)
    replace g2 := g2.below hb (Nat.le_refl _)
    replace g3 := g3.below hb (Nat.le_refl _)
    replace g4 := g4.below hb (Nat.le_refl _)
    replace g5 := g5.below hb (Nat.le_refl _)
    replace g6 := g6.below hb (Nat.le_refl _)
    replace g7 := g7.below hb (Nat.le_refl _)
    replace gP := gP.below hb (Nat.le_refl _)
    replace GP := GP.below hb (Nat.le_refl _)
    replace SP := SP.below hb (Nat.le_refl _)
    replace EP := EP.below hb (Nat.le_refl _)
    replace gQ := gQ.below hb (Nat.le_refl _)
    replace GQ := GQ.below hb (Nat.le_refl _)
    replace SQ := SQ.below hb (Nat.le_refl _)
    replace EQ := EQ.below hb (Nat.le_refl _)
    replace hB := hB.trans (hb.mono hB.size)
    clear hb
    go_wp2_with fail
    refine (joined37 _ _ _ _ _ _ _ s4 x4 len4 y4 s4 _ _ GP.joined GQ.joined SP.j SQ.j g4 m4).mono ?_
    rintro e wm ⟨rfl, hwm⟩
    obtain rfl : w20 = wm := hwm.symm
    go_wp2_with fail
    go_ret
    exact ⟨rfl, hB⟩
end Go.Proofs.Qxb6600058a
