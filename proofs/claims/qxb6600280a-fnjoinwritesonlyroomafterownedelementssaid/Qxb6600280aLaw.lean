/-
  THE LAW's WALK for seat b6600280a: FnJoinWritesOnlyRoomAfterOwnedElements (9).
-/
import Derived.Test.Qxb6600280aEnd
namespace Go.Proofs.Qxb6600280a
open Go.RowKit
set_option linter.unusedVariables false
attribute [local go_sem ↓] Go.wp_at_zero Go.wp_at_succ

set_option maxHeartbeats 800000 in
theorem equal29d (w : World) (a : Option Addr) (len cap : Nat) (a' : Option Addr) (cap' : Nat) (zs : List Int) (h : HasI .u8 w a len cap zs) (h' : HasI .u8 w a' len cap' zs) (hsm : len ≤ 1048576) :
    Calls Try.prog 29 #[.slice a len cap, .slice a' len cap'] w fun e w' => e = .returned (.bool true) ∧ ∃ n, w' = w.drewN n := by
  have hne : ((len : Int) != (len : Int)) = false := by simp
  go_enter Try.func29, Try.ntmps29
  go_wp2
  go_loopw [5] (fun i wr => ∃ k n : Nat, k ≤ len ∧ i = .int .i64 k ∧ wr = w.drewN n) (fun i _ => len - (intOf i).toNat)
  case atStart => exact ⟨0, 0, Nat.zero_le _, rfl, rfl⟩
  case round =>
    obtain ⟨k, n, hk, rfl, rfl⟩ := hrel
    by_cases hlt : k < len
    · obtain ⟨b, off, rfl, -, hc⟩ := h.get hlt
      obtain ⟨b', off', rfl, -, hc'⟩ := h'.get hlt
      clear h h'
      generalize zs.getD k 0 = s at hc hc'
      have hi1 : (0 : Int) ≤ (k : Int) := by omega
      have hi2 : (k : Int) < (len : Int) := by omega
      have hq : (s != s) = false := by simp
      go_wp2
      go_quiet (fail)
      go_wp2
      go_roundw
      case rel => exact ⟨k + 1, _, by omega, by go_num, rfl⟩
      case measure => simp [intOf]; omega
    · go_wp2
      go_ret
      exact ⟨rfl, n, rfl⟩

set_option maxRecDepth 100000 in
set_option maxHeartbeats 2000000 in
theorem law_walk (w : World) (a0 : Option Addr) (l0 c0 : Nat) (dat : List Int) (h0 : HasI .u8 w a0 l0 c0 dat) (hc0 : l0 ≤ c0) (n0 : l0 ≤ maxLen) (a1 : Option Addr) (l1 c1 : Nat) (sz : List Int) (h1 : HasI .i64 w a1 l1 c1 sz) (n1 : l1 ≤ maxLen) (a2 : Option Addr) (l2 c2 : Nat) (ct : List Int) (h2 : HasI .i64 w a2 l2 c2 ct) (n2 : l2 ≤ maxLen)
    (a3 : Option Addr) (l3 c3 : Nat) (ow : List Bool) (h3 : HasB w a3 l3 c3 ow) (n3 : l3 ≤ maxLen) (a4 : Option Addr) (l4 c4 : Nat) (rm : List Int) (h4 : HasI .i64 w a4 l4 c4 rm) (n4 : l4 ≤ maxLen) (f l : Int) (wf1 : -9223372036854775808 ≤ f) (wf2 : f ≤ 9223372036854775807) :
    Calls Try.prog 9 #[.slice a0 l0 c0, .slice a1 l1 c1, .slice a2 l2 c2, .slice a3 l3 c3, .slice a4 l4 c4, .int .i64 f, .int .i64 l] w fun r w' => r = .returned (.bool true) ∧ Below w.heap.size w w' := by
  have B31 := bytes31 w a0 l0 c0 a1 l1 c1 a2 l2 c2 a3 l3 c3 a4 l4 c4 f l n0 n1 n2 n3 n4
  have H0 : Hid (HasI .u8 w a0 l0 c0 dat) := h0
  have H1 : Hid (HasI .i64 w a1 l1 c1 sz) := h1
  have H2 : Hid (HasI .i64 w a2 l2 c2 ct) := h2
  have H3 : Hid (HasB w a3 l3 c3 ow) := h3
  have H4 : Hid (HasI .i64 w a4 l4 c4 rm) := h4
  clear h0 h1 h2 h3 h4
  unfold maxLen at n0 n1 n2 n3 n4
  go_enter Try.func9, Try.ntmps9
  go_upto_if 32 with (go_at_call 31; refine B31.mono ?_; rintro r w' ⟨⟨b, rfl⟩, hw'⟩; obtain rfl : w = w' := hw'.symm)
  clear B31
  cases b
  · go_wp2
    go_ret
    exact ⟨rfl, Below.refl _ _⟩
  by_cases m0 : l0 ≤ 524288
  case neg =>
    go_wp2
    go_ret
    exact ⟨rfl, Below.refl _ _⟩
  by_cases m1 : l1 ≤ 4096
  case neg =>
    go_wp2
    go_ret
    exact ⟨rfl, Below.refl _ _⟩
  by_cases m2 : l2 ≤ 4096
  case neg =>
    go_wp2
    go_ret
    exact ⟨rfl, Below.refl _ _⟩
  by_cases m3 : l3 ≤ 4096
  case neg =>
    go_wp2
    go_ret
    exact ⟨rfl, Below.refl _ _⟩
  by_cases m4 : l4 ≤ 4096
  case neg =>
    go_wp2
    go_ret
    exact ⟨rfl, Below.refl _ _⟩
  have B22 := fit22 w a0 l0 c0 a1 l1 c1 sz H1.out a2 l2 c2 a3 l3 c3 a4 l4 c4 rm H4.out f l m0 m1 m2 m3 m4 wf1 wf2
  go_upto_if 56 with (go_at_call 22; refine B22.mono ?_; rintro r w' ⟨⟨b, rfl, hb⟩, hw'⟩; obtain rfl : w = w' := hw'.symm)
  clear B22
  cases b
  · go_wp2
    go_ret
    exact ⟨rfl, Below.refl _ _⟩
  have hF := hb rfl
  have HF : Hid (Fit l0 sz rm f l) := hF
  have B23 := build23 w a0 l0 c0 dat H0.out hc0 a1 l1 c1 sz H1.out a2 l2 c2 ct H2.out a3 l3 c3 ow H3.out a4 l4 c4 rm H4.out f l m0 m1 m2 m3 m4 hF
  have hmp : 0 < l1 := by have h1 := hF.first0; have h2 := hF.first1; have h3 := H1.out.length; omega
  have mk := run_make_row' (P := Try.prog) 35 22 (.slice none 0 0) 24 Try.underlying35 Try.info22 rfl .i64 .i64 l1 (by omega) (by omega)
  clear hb hF
  go_wp2_with (go_at_call 23; refine B23.mono ?_; rintro r w' ⟨v, RL, E, rfl, hBI, hD⟩; have HI : Hid (BI w w' l1 v RL RL RL E) := hBI; have HD : Hid (Desc RL E l1 l3 ow) := hD; clear hBI hD)
  clear B23 mk
  obtain ⟨W0, rfl⟩ : ∃ W0, W0 = w' := ⟨_, rfl⟩
  obtain ⟨S0, hS0⟩ : ∃ S0, S0 = W0.heap.size := ⟨_, rfl⟩
  have HS0 : Hid (S0 = W0.heap.size) := hS0
  rw [← hS0]
  clear hS0
  go_loopw [20] (fun i wr => ∃ (k : Nat) (sn : Nat → Nat), k ≤ l1 ∧ i = .int .i64 k ∧ Hid (SInv W0 wr S0 l1 k RL sn)) (fun i _ => l1 - (intOf i).toNat)
  case atStart => exact ⟨0, fun _ => 0, Nat.zero_le _, rfl, by rw [HS0.out]; exact sinv_start W0 l1 RL⟩
  case round =>
    obtain ⟨k, sn, hk, rfl, HI2⟩ := hrel
    by_cases hlt : k < l1
    · obtain ⟨r, hr⟩ : ∃ r, RL[k]? = some r := ⟨RL[k]'(by rw [HD.out.len]; exact hlt), List.getElem?_eq_getElem _⟩
      have hg := HI.out.good r (List.mem_of_getElem? hr)
      have hc := HI.out.bufs.cells rfl k r.bufv (by rw [List.getElem?_map, hr]; rfl)
      rw [Addr.add_lit, Nat.zero_add] at hc
      have hszs := HI.out.szs
      have hc2 : wr.cell? ⟨w.heap.size + 1, k, none⟩ = some (.slice (some ⟨r.g, 0, none⟩) r.L r.L) := (HI2.out.below.cell (p := ⟨w.heap.size + 1, k, none⟩) (by show w.heap.size + 1 < _; omega)).trans hc
      obtain ⟨bs, hrow⟩ := hg.row
      have HBy : Hid (bytesOf W0 r.g = bs) := hrow.bytes
      have hrow2 : Row wr r.g r.L bs := ⟨hrow.1, (HI2.out.below.block _ hrow.lt).trans hrow.2⟩
      have HLL := hg.LL
      have mk := run_make_row' (P := Try.prog) 22 5 (.int .u8 0) 1 Try.underlying22 Try.info5 rfl .i64 .i64 r.L (by omega) (by omega)
      have hX := row_made (w := wr) (L := r.L) rfl
      have hsrc : ∀ j v, (bs.map (Value.int .u8))[j]? = some v → (wr.alloc (.cells (madeCells #[.int .u8 0] r.L) 5)).cell? ((⟨r.g, 0, none⟩ : Addr).add j) = some v := fun j v hv => by
        rw [Addr.add_lit, cell_of_row _ r.g (0 + j) _ 5 (0, 0) ((Below.heap_alloc _ _ _ hrow2.lt).trans hrow2.2)]
        simpa using hv
      obtain ⟨F, hF1, hF2, hF3⟩ := copy_runs (wr.alloc (.cells (madeCells #[.int .u8 0] r.L) 5)) wr.heap.size 0 r.L r.L ⟨r.g, 0, none⟩ r.L r.L _ (bs.map (Value.int .u8)) hX.2 (by rw [List.length_map, hrow.1]; exact (Nat.min_self _).symm) hsrc (by rw [List.length_map, hrow.1]; simp) (ints_oneCell .u8 _)
      have hF0 : (Builtin.copy_ #[22, 22] 3 #[.slice (some ⟨wr.heap.size, 0, none⟩) r.L r.L, .slice (some ⟨r.g, 0, none⟩) r.L r.L]).run Try.prog (wr.alloc (.cells (madeCells #[.int .u8 0] r.L) 5)) = _ := hF1 0
      rw [List.length_map, hrow.1] at hF0
      have HRV : Hid (Row (F 0) wr.heap.size r.L bs) := ⟨hrow.1, by rw [hF2 0, splice_all _ _ (by simp [hrow.1])]⟩
      have HBV : Hid (Below wr.heap.size wr (F 0)) := (below_al (Below.refl _ _) _).grown (hF3 0) (by rw [sz_alloc]; omega) (fun k hk => by cases hk; exact Nat.le_refl _)
      obtain ⟨⟨u0, hu0⟩, hf0⟩ := HI2.out.spot hlt HBV.out
      have hc3 : ∀ ob : Obj, (wr.alloc ob).cell? ⟨w.heap.size + 1, k, none⟩ = some (.slice (some ⟨r.g, 0, none⟩) r.L r.L) := fun ob => (World.cell?_of_block (Below.heap_alloc _ _ _ (World.block_lt_of_cell? _ _ hc2))).trans hc2
      have HR : Hid _ := hr
      clear hF1 hF2 hF3 hX hsrc hrow hrow2 hg hr hc
      generalize F 0 = V at hF0 HRV HBV hu0 hf0
      have hk0 : (0 : Int) ≤ (k : Int) := by omega
      have hk1 : (k : Int) < (l1 : Int) := by omega
      obtain ⟨g, L, s, e, c, o⟩ := r
      dsimp only at hc2 HLL mk hF0 HRV hc3 HR HBy
      go_wp2_with fail
      go_round
      case rel => exact ⟨k + 1, _, by omega, by go_num, HI2.out.step hlt HR.out HBV.out (by rw [HBy.out]; exact HRV.out)⟩
      case measure => simp [intOf]; omega
    · obtain rfl : l1 = k := by omega
      obtain ⟨ca, cap, hFx, hJI, q0, qf, h4', hcal⟩ := join_start HI.out HI2.out HD.out.len hmp m1
      have hf0 := HF.out.first0
      have hfl := HF.out.last0
      have hl1' := HF.out.last1
      have hf1 : f < l1 := by have := HF.out.first1; rw [H1.out.length] at this; exact this
      obtain ⟨fn, rfl⟩ : ∃ fn : Nat, f = fn := ⟨f.toNat, by omega⟩
      obtain ⟨ln, rfl⟩ : ∃ ln : Nat, l = ln := ⟨l.toNat, by omega⟩
      have J24 := join24 wr w.heap.size ca l1 cap fn ln RL (bytesOf W0) _ hFx hJI q0 qf (by omega) (by omega) (by omega)
      clear hFx hJI q0 qf
      go_wp2_with (go_at_call 24; refine J24.mono ?_; rintro r w' ⟨rfl, hJ⟩; have hJE := join_end HI.out HI2.out HD.out.len HD.out.es h4' hcal hJ; have HFn : Hid (Fin' w' w.heap.size S0 RL sn (bytesOf W0)) := hJE.1; have HBl : Hid (Below w.heap.size w w') := hJE.2; clear hJ hJE)
      clear J24
      obtain ⟨W2, rfl⟩ : ∃ W2, W2 = w' := ⟨_, rfl⟩
      go_loopw [22] (fun i wr => ∃ k n : Nat, k ≤ l1 ∧ i = .int .i64 k ∧ wr = W2.drewN n) (fun i _ => l1 - (intOf i).toNat)
      case atStart => exact ⟨0, 0, Nat.zero_le _, rfl, rfl⟩
      case round =>
        obtain ⟨k, n, hk, rfl, rfl⟩ := hrel
        by_cases hlt : k < l1
        · obtain ⟨r, hr⟩ : ∃ r, RL[k]? = some r := ⟨RL[k]'(by rw [HD.out.len]; exact hlt), List.getElem?_eq_getElem _⟩
          have hb := HFn.out.fb k r hr
          have hh := HFn.out.fh k r hr
          obtain ⟨x, he⟩ := HFn.out.fe k r hr
          have hs := HFn.out.fs k r hr
          have ga := HFn.out.ga k r hr
          have gb := HFn.out.gb k r hr
          obtain ⟨o1, o2, o3⟩ := HFn.out.ok k r hr
          have hown := HD.out.own k r hr
          have hkl : r.keep ≤ r.L := by unfold Rec.keep; split <;> omega
          have A32 : ∀ n, Calls Try.prog 32 #[.slice a3 l3 c3, .int .i64 k] (W2.drewN n) fun e w' => e = .returned (.bool r.o) ∧ w' = W2.drewN n := fun n => by
            rw [hown]; exact owned32 _ a3 l3 c3 ow (H3.out.below (below_drewN HBl.out n) (Nat.le_refl _)) k m3 (by omega)
          have A29 : ∀ n n' : Nat, Calls Try.prog 29 #[.slice (some ⟨r.g, 0, none⟩) r.keep r.L, .slice (some ⟨sn k, 0, none⟩) r.keep r.L] (W2.drewN (n + n')) fun e w' => e = .returned (.bool true) ∧ ∃ m, w' = W2.drewN (n + m) := fun n n' =>
            (equal29d (W2.drewN (n + n')) _ r.keep r.L _ r.L _ (ga.below (below_drewN (Below.refl _ _) _) (Nat.le_refl _)) (gb.below (below_drewN (Below.refl _ _) _) (Nat.le_refl _)) (by omega)).mono (by rintro e w' ⟨rfl, m, rfl⟩; exact ⟨rfl, n' + m, by rw [World.drewN_drewN, Nat.add_assoc]⟩)
          have hk0 : (0 : Int) ≤ (k : Int) := by omega
          have hk1 : (k : Int) < (l1 : Int) := by omega
          clear ga gb hown hr hkl
          obtain ⟨g, L, s, e, c, o⟩ := r
          cases o
          · have hkp : Rec.keep ⟨g, L, s, e, c, false⟩ = L := rfl
            rw [hkp] at A29
            dsimp only at hb hh he hs o1 o2 o3 A32 A29
            have i1 : (0 : Int) ≤ (L : Int) := by omega
            clear hkp
            go_upto_region 30 with (go_at_call 32; refine (A32 _).mono ?_; rintro r w' ⟨rfl, hw'⟩; obtain rfl := hw')
            go_quiet ((go_at_call 29; exact A29 _ _))
            go_wp2_with fail
            go_round
            case rel => exact ⟨k + 1, _, by omega, by go_num, rfl⟩
            case measure => simp [intOf]; omega
          · have hkp : Rec.keep ⟨g, L, s, e, c, true⟩ = e := rfl
            rw [hkp] at A29
            dsimp only at hb hh he hs o1 o2 o3 A32 A29
            obtain ⟨d, hd⟩ : ∃ d, d = e - s := ⟨_, rfl⟩
            rw [← hd] at he
            have hse : (s : Int) + (d : Int) = (e : Int) := by omega
            have i1 : (0 : Int) ≤ (e : Int) := by omega
            have i2 : (e : Int) ≤ (L : Int) := by omega
            have i3 : IntKind.i64.wrap (e : Int) = (e : Int) := by rw [IntKind.wrap_i64]; omega
            clear hkp hd
            go_upto_region 29 with (go_at_call 32; refine (A32 _).mono ?_; rintro r w' ⟨rfl, hw'⟩; obtain rfl := hw')
            go_quiet (fail)
            go_upto_region 30 with fail
            go_quiet ((go_at_call 29; exact A29 _ _))
            go_wp2_with fail
            go_round
            case rel => exact ⟨k + 1, _, by omega, by go_num, rfl⟩
            case measure => simp [intOf]; omega
        · go_wp2
          go_ret
          exact ⟨rfl, below_drewN HBl.out n⟩
end Go.Proofs.Qxb6600280a
