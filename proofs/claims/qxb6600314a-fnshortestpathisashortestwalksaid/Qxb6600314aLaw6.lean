/-
  THE LAW's WALK for seat b6600314a: FnShortestPathObeysTriangleInequality (6); ZZcomponents (11), ZZshortestPath (15).
-/
import Derived.Test.Qxb6600314aClone
import Derived.Test.Qxb6600314aPath
namespace Go.Proofs.Qxb6600314a
open Go.RowKit
set_option linter.unusedVariables false

/-- What ZZcomponents answers. -/
structure CP (w w' : World) (n : Nat) (deps : Nat → List Nat) (comp : Nat → Nat) : Prop where
  below : Below w.heap.size w w'
  comps : Comps deps n comp
  row : w'.heap[w.heap.size + 6]? = some (.cells (irow n comp) 3 (0, 0))

theorem zzc11 (w : World) (D n : Nat) (deps : Nat → List Nat) (hG : Graph w D n deps) (hn : n ≤ 65536) :
    Calls Try.prog 11 #[.slice (some ⟨D, 0, none⟩) n n] w fun r w' => ∃ comp, r = .returned (.slice (some ⟨w.heap.size + 6, 0, none⟩) n n) ∧ CP w w' n deps comp := by
  have C19 := comps19 w D n deps hG hn
  clear hG
  go_enter Try.func11, Try.ntmps11
  go_wp2_with (go_at_call 19; refine C19.mono ?_; rintro r w' ⟨comp, rfl, h1, h2, h3⟩; have H : Hid (CP w w' n deps comp) := ⟨h1, h2, h3⟩; clear h1 h2 h3)
  go_ret
  exact ⟨comp, rfl, H.out⟩

/-- What ZZshortestPath answers. -/
structure SP (w w' : World) (deps : Nat → List Nat) (st en g cap : Nat) (L : List Nat) : Prop where
  below : Below w.heap.size w w'
  row : w'.ownsRow w.heap.size 3 1 (.slice (some ⟨g, 0, none⟩) L.length cap) L.length (ints L)
  path : PathIs deps st en L

theorem zzs15 (w : World) (D n C : Nat) (deps : Nat → List Nat) (comp : Nat → Nat) (hG : Graph w D n deps) (hn : n ≤ 65536) (hC : Comps deps n comp) (hc : w.heap[C]? = some (.cells (irow n comp) 3 (0, 0))) (st en : Nat) (hst : st < n) (hen : en < n) (hse : comp en = comp st) :
    Calls Try.prog 15 #[.slice (some ⟨D, 0, none⟩) n n, .slice (some ⟨C, 0, none⟩) n n, .int .i64 (st : Int), .int .i64 (en : Int)] w fun r w' => ∃ g cap L, r = .returned (.slice (some ⟨g, 0, none⟩) L.length cap) ∧ SP w w' deps st en g cap L := by
  have P21 := path21 w D n C deps comp hG hn hC hc st en hst hen hse
  clear hG hC hc hse
  go_enter Try.func15, Try.ntmps15
  go_wp2_with (go_at_call 21; refine P21.mono ?_; rintro r w' ⟨g, cap, L, rfl, h1, h2, h3⟩; have H : Hid (SP w w' deps st en g cap L) := ⟨h1, h2, h3⟩; clear h1 h2 h3)
  go_ret
  exact ⟨g, cap, L, rfl, H.out⟩

theorem tri {deps : Nat → List Nat} {a b c : Nat} {L1 L2 L3 : List Nat} (h1 : PathIs deps a b L1) (h2 : PathIs deps b c L2) (h3 : PathIs deps a c L3) : L3.length ≤ L1.length + L2.length - 1 := by
  have := h3.dist.2 _ (h1.dist.1.trans h2.dist.1)
  have := h1.pos
  have := h2.pos
  have := h3.pos
  omega

set_option maxRecDepth 100000 in
set_option maxHeartbeats 1000000 in
theorem law6 (w : World) (a : Option Addr) (len cap : Nat) (Z : Nat → List Int) (h : InG w a len Z) (x y z : Int) :
    Calls Try.prog 6 #[.slice a len cap, .int .i64 x, .int .i64 y, .int .i64 z] w fun r w' => r = .returned (.bool true) ∧ Below w.heap.size w w' := by
  have A18 := bytes18 w a len cap Z h x y z
  have A8 := big8 w a len cap Z h
  have H : Hid _ := h
  clear h
  go_enter Try.func6, Try.ntmps6
  go_upto_if 19 with (go_at_call 18; refine A18.mono ?_; rintro r w' ⟨⟨b, rfl⟩, hw'⟩; obtain rfl : w = w' := hw'.symm)
  clear A18
  cases b
  · go_wp2
    go_ret
    exact ⟨rfl, Below.refl _ _⟩
  go_upto_if 21 with (go_at_call 8; refine A8.mono ?_; rintro r w' ⟨⟨b, rfl, hb⟩, hw'⟩; obtain rfl : w = w' := hw'.symm; have HB : Hid _ := hb; clear hb)
  clear A8
  cases b
  case true =>
    go_wp2
    go_ret
    exact ⟨rfl, Below.refl _ _⟩
  obtain ⟨hn, hz⟩ := HB.out rfl
  have A9 := wf9 w a len cap Z H.out hn hz
  have HZ : Hid _ := hz
  clear HB hz
  go_upto_if 24 with (go_at_call 9; refine A9.mono ?_; rintro r w' ⟨⟨b, rfl, hb⟩, hw'⟩; obtain rfl : w = w' := hw'.symm; have HB : Hid _ := hb; clear hb)
  clear A9
  cases b
  · go_wp2
    go_ret
    exact ⟨rfl, Below.refl _ _⟩
  have hwf := HB.out rfl
  have HW : Hid _ := hwf
  clear hwf HB
  by_cases x0 : x < 0
  · go_wp2
    go_ret
    exact ⟨rfl, Below.refl _ _⟩
  by_cases x1 : x < (len : Int)
  case neg =>
    go_wp2
    go_ret
    exact ⟨rfl, Below.refl _ _⟩
  by_cases y0 : y < 0
  · go_wp2
    go_ret
    exact ⟨rfl, Below.refl _ _⟩
  by_cases y1 : y < (len : Int)
  case neg =>
    go_wp2
    go_ret
    exact ⟨rfl, Below.refl _ _⟩
  by_cases z0 : z < 0
  · go_wp2
    go_ret
    exact ⟨rfl, Below.refl _ _⟩
  by_cases z1 : z < (len : Int)
  case neg =>
    go_wp2
    go_ret
    exact ⟨rfl, Below.refl _ _⟩
  obtain ⟨p, rfl⟩ : ∃ p : Nat, x = p := ⟨x.toNat, by omega⟩
  obtain ⟨q, rfl⟩ : ∃ q : Nat, y = q := ⟨y.toNat, by omega⟩
  obtain ⟨s, rfl⟩ : ∃ s : Nat, z = s := ⟨z.toNat, by omega⟩
  have hp : p < len := by omega
  have hq : q < len := by omega
  have hs : s < len := by omega
  have A10 := clone10 w a len cap Z H.out (by omega) hn HZ.out HW.out
  go_upto_region 11 with (go_at_call 10; refine A10.mono ?_; rintro r w1 ⟨rfl, hb1, hg1⟩; have HB1 : Hid _ := hb1; have HG1 : Hid _ := hg1; clear hb1 hg1)
  clear A10
  have A11 := zzc11 w1 w.heap.size len (depsOf Z) HG1.out hn
  go_upto_region 12 with (go_at_call 11; refine A11.mono ?_; rintro r w2 ⟨comp, rfl, hcp⟩; have HCP : Hid _ := hcp; clear hcp)
  clear A11
  have HB2 : Hid (Below w.heap.size w w2) := HB1.out.trans (HCP.out.below.mono HB1.out.size)
  have HG2 : Hid (Graph w2 w.heap.size len (depsOf Z)) := HG1.out.below HCP.out.below
  have cp := cell_blk HCP.out.row (irow_get (f := comp) hp)
  have cq := cell_blk HCP.out.row (irow_get (f := comp) hq)
  have cs := cell_blk HCP.out.row (irow_get (f := comp) hs)
  obtain ⟨C, hC⟩ : ∃ C, C = w1.heap.size + 6 := ⟨_, rfl⟩
  have HR : Hid (w2.heap[C]? = some (.cells (irow len comp) 3 (0, 0))) := by show _ = _; rw [hC]; exact HCP.out.row
  have HC : Hid (Comps (depsOf Z) len comp) := HCP.out.comps
  rw [← hC] at cp cq cs ⊢
  clear hC HCP HG1 HB1
  have hp0 : (0 : Int) ≤ (p : Int) := by omega
  have hq0 : (0 : Int) ≤ (q : Int) := by omega
  have hs0 : (0 : Int) ≤ (s : Int) := by omega
  by_cases e1 : comp p = comp q
  case neg =>
    have e1i : ((comp p : Nat) : Int) ≠ ((comp q : Nat) : Int) := by omega
    go_quiet (fail)
    obtain ⟨q1, rfl⟩ : ∃ q, q = nq := ⟨_, rfl⟩
    go_wp2
    go_ret
    exact ⟨rfl, HB2.out.os, HB2.out.tape, HB2.out.output, HB2.out.size, HB2.out.block⟩
  by_cases e2 : comp q = comp s
  case neg =>
    have e2i : ((comp q : Nat) : Int) ≠ ((comp s : Nat) : Int) := by omega
    rw [e1] at cp
    go_quiet (fail)
    obtain ⟨q1, rfl⟩ : ∃ q, q = nq := ⟨_, rfl⟩
    go_wp2
    go_ret
    exact ⟨rfl, HB2.out.os, HB2.out.tape, HB2.out.output, HB2.out.size, HB2.out.block⟩
  have E1 : Hid _ := e1
  have E2 : Hid _ := e2
  rw [e1, e2] at cp
  rw [e2] at cq
  clear e1 e2
  go_quiet (fail)
  obtain ⟨q1, rfl⟩ : ∃ q, q = nq := ⟨_, rfl⟩
  have HB3 : Hid (Below w.heap.size w (w2.drewN q1)) := ⟨HB2.out.os, HB2.out.tape, HB2.out.output, HB2.out.size, HB2.out.block⟩
  have HG3 : Hid (Graph (w2.drewN q1) w.heap.size len (depsOf Z)) := HG2.out.below ⟨rfl, rfl, rfl, Nat.le_refl _, fun _ _ => rfl⟩
  have HR3 : Hid ((w2.drewN q1).heap[C]? = some (.cells (irow len comp) 3 (0, 0))) := HR.out
  clear cp cq cs HB2 HG2 HR
  generalize w2.drewN q1 = w3 at HB3 HG3 HR3 ⊢
  have A1 := zzs15 w3 w.heap.size len C (depsOf Z) comp HG3.out hn HC.out HR3.out p q hp hq E1.out.symm
  go_upto_region 15 with (go_at_call 15; refine A1.mono ?_; rintro r w4 ⟨g1, cap1, L1, rfl, hsp⟩; have HS1 : Hid _ := hsp; clear hsp)
  clear A1
  have hC3 : C < w3.heap.size := (Array.getElem?_eq_some_iff.1 HR3.out).1
  have A2 := zzs15 w4 w.heap.size len C (depsOf Z) comp (HG3.out.below HS1.out.below) hn HC.out ((HS1.out.below.block C hC3).trans HR3.out) q s hq hs E2.out.symm
  go_upto_region 16 with (go_at_call 15; refine A2.mono ?_; rintro r w5 ⟨g2, cap2, L2, rfl, hsp⟩; have HS2 : Hid _ := hsp; clear hsp)
  clear A2
  have hb5 := HS1.out.below.trans (HS2.out.below.mono HS1.out.below.size)
  have HB5 : Hid _ := hb5
  clear hb5
  have A3 := zzs15 w5 w.heap.size len C (depsOf Z) comp (HG3.out.below HB5.out) hn HC.out ((HB5.out.block C hC3).trans HR3.out) p s hp hs (E2.out.symm.trans E1.out.symm)
  go_upto_region 17 with (go_at_call 15; refine A3.mono ?_; rintro r w6 ⟨g3, cap3, L3, rfl, hsp⟩; have HS3 : Hid _ := hsp; clear hsp)
  clear A3
  have t1 := tri HS1.out.path HS2.out.path HS3.out.path
  have t2 := HS1.out.path.bnd
  have t3 := HS2.out.path.bnd
  have t4 := HS3.out.path.bnd
  have t5 := HS3.out.path.pos
  have hb6 := HB3.out.trans ((HB5.out.trans (HS3.out.below.mono HB5.out.size)).mono HB3.out.size)
  have HB6 : Hid _ := hb6
  clear hb6 HS1 HS2 HS3 HB5
  generalize L1.length = l1 at *
  generalize L2.length = l2 at *
  generalize L3.length = l3 at *
  have hle : (l3 : Int) ≤ (l1 : Int) + (l2 : Int) - 1 := by omega
  have hge : (1 : Int) ≤ (l3 : Int) := by omega
  go_wp2_with fail
  go_ret
  exact ⟨rfl, HB6.out⟩
end Go.Proofs.Qxb6600314a
