/-
  WALK for seat b6600314a: distancesTo (17).
-/
import Derived.Test.Qxb6600314aDist
import Derived.Test.Qxb6600314aRev
namespace Go.Proofs.Qxb6600314a
open Go.RowKit
set_option linter.unusedVariables false

/-- The queue whole. -/
structure QI (n : Nat) (S I : Nat → Nat) (en : Nat) (cf : Nat → Option Nat) (d : Nat → Nat) (Q : List Nat) : Prop where
  nd : Q.Nodup
  seen : ∀ v ∈ Q, v < n ∧ ∃ u, cf v = some u
theorem QI.len {n : Nat} {S I : Nat → Nat} {en : Nat} {cf : Nat → Option Nat} {d : Nat → Nat} {Q : List Nat} (h : QI n S I en cf d Q) : Q.length ≤ n := nodup_bound n Q h.nd (fun v hv => (h.seen v hv).1)
theorem QI.add {n : Nat} {S I : Nat → Nat} {en : Nat} {cf : Nat → Option Nat} {d : Nat → Nat} {Q : List Nat} (h : QI n S I en cf d Q) {b a k : Nat} (hb : b < n) (h0 : cf b = none) : QI n S I en (setC cf b a) (upd d b k) (Q ++ [b]) := by
  refine ⟨List.nodup_append.2 ⟨h.nd, by simp, fun x hx y hy e => ?_⟩, fun v hv => ?_⟩
  · have : y = b := by simpa using hy
    subst this
    obtain ⟨_, u, hu⟩ := h.seen x hx
    rw [e, h0] at hu
    cases hu
  · by_cases e : v = b
    · subst e
      exact ⟨hb, a, setC_same _ _ _⟩
    · rcases List.mem_append.1 hv with hv | hv
      · obtain ⟨h1, u, hu⟩ := h.seen v hv
        exact ⟨h1, u, by rw [setC_other _ _ e]; exact hu⟩
      · exact absurd (by simpa using hv) e

/-- What distancesTo leaves. -/
structure DP (w w' : World) (n g : Nat) (deps : Nat → List Nat) (en : Nat) : Prop where
  below : Below w.heap.size w w'
  dist : ∀ st k, st < n → IsDist deps st en k → w'.cell? ⟨g, st, none⟩ = some (.int .i64 (k : Int))

set_option maxRecDepth 100000 in
set_option maxHeartbeats 1000000 in
theorem dist17 (w : World) (D n : Nat) (deps : Nat → List Nat) (hG : Graph w D n deps) (hn : n ≤ 65536) (en : Nat) (hen : en < n) :
    Calls Try.prog 17 #[.slice (some ⟨D, 0, none⟩) n n, .int .i64 (en : Int)] w fun r w' => ∃ g, r = .returned (.slice (some ⟨g, 0, none⟩) n n) ∧ DP w w' n g deps en := by
  have A20 := trans20 w D n deps hG hn
  have mk := run_make_row' (P := Try.prog) 25 3 (.int .i64 0) 8 Try.underlying25 Try.info3 rfl .i64 .i64 n (by omega) (by omega)
  rw [← zrow0] at mk
  have HBn : Hid _ := hG.bnd
  clear hG
  go_enter Try.func17, Try.ntmps17
  go_wp2_with (go_at_call 20; refine A20.mono ?_; rintro r w1 ⟨S, I, rfl, htp⟩; have HTP : Hid _ := htp; clear htp)
  clear A20 mk
  have HD : Hid _ := d0_start w1 n
  go_loopg [9] n (fun gk s9 wr => ∃ (u : Nat) (f : Nat → Int), s9 = .int .i64 (u : Int) ∧ u ≤ n ∧ n - u ≤ gk ∧ Hid (D0 w1 wr n f ∧ ∀ i, i < u → f i = -1))
  case atStart => exact ⟨0, _, rfl, Nat.zero_le _, by omega, HD.out, fun i hi => by omega⟩
  case round =>
    obtain ⟨u, f, rfl, hu, hgk, HI⟩ := hrel
    clear HD
    by_cases hul : u < n
    · have cD := HI.out.1.cell (i := u) hul
      have fD := HI.out.1.free
      have HS : Hid _ := HI.out.1.set u (-1)
      go_wp2_with fail
      go_roundg (n - (u + 1))
      case measure => omega
      case rel => exact ⟨u + 1, _, by go_num, by omega, Nat.le_refl _, HS.out, fun i hi => by
        by_cases e : i = u
        · rw [e, updZ_same]
        · rw [updZ_other _ _ e]; exact HI.out.2 i (by omega)⟩
    · obtain rfl : n = u := by omega
      have cD := HI.out.1.cell (i := en) hen
      have fD := HI.out.1.free
      have h0 := HI.out.1.set en 0
      have hm0 := h0.dm n hn
      rw [h0.size] at hm0
      have HM0 : Hid _ := hm0
      have mk0 := run_make0 n hn
      have hszD := HI.out.1.size
      have hen0 : (0 : Int) ≤ (en : Int) := by omega
      have hen1 : (en : Int) < (n : Int) := by omega
      clear h0 hm0
      go_upto_region 10 with fail
      generalize ((wr.setCell ⟨w1.heap.size, en, none⟩ (.int .i64 0)).alloc (.cells (madeCells #[.int .i64 0] n) 3)) = W at HM0 ⊢
      clear cD fD mk0 hszD
      obtain ⟨i3, hi3, hz30, hz31, hz32⟩ := info_parts Try.info3
      have hW := HM0.out.size
      have HN : Hid (∀ j y, [Value.int .i64 (en : Int)][j]? = some y → (W.alloc (.cells #[.int .i64 (en : Int)] 3)).cell? ((⟨W.heap.size, 0, none⟩ : Addr).add j) = some y) :=
        World.news_of_block (cs := #[.int .i64 (en : Int)]) (t := 3) (fr := (0, 0)) (heap_alloc_new W _)
      have H1C : Hid (∀ y ∈ [Value.int .i64 (en : Int)], y.oneCell' = true) := by show ∀ y ∈ _, _; simp [Value.oneCell']
      have hm1 : 0 + 1 ≤ maxLen := by unfold maxLen; omega
      have HM2 : Hid ((0 + 1) * 8 ≤ 140737488355328) := by show _ ≤ _; omega
      have HWs : Hid (∀ (ob : Obj), (W.alloc ob).heap.size = W.heap.size + 1) := fun ob => sz_alloc W ob
      have HB2 : Hid (∀ ob : Obj, w1.heap.size + 1 ≤ (W.alloc ob).heap.size) := fun ob => by rw [sz_alloc]; omega
      have HO2 : Hid (∀ ob : Obj, (W.alloc ob).ownsRow (w1.heap.size + 1) 3 1 (.slice (some ⟨w1.heap.size + 1, 0, none⟩) 0 n) 0 (ints [])) := fun ob => (HM0.out.al ob).que
      go_wp2_with (at_builtin; (refine wpList_append_lies _ rfl (.tmp 37) (.tmp 39) 25 rfl (w1.heap.size + 1) 3 i3 _ 1 8 Try.underlying25 hi3 hz30 hz31 hz32 rfl (by omega) (.slice (some ⟨w1.heap.size + 1, 0, none⟩) 0 n) 0 (ints []) rfl (HO2.out _) ⟨W.heap.size, 0, none⟩ 1 1 _ rfl rfl HN.out H1C.out (by omega) hm1 HM2.out (HB2.out _) (W.heap.size + 1) (HWs.out _) ?_; intro ca cap w2 ho1 hg1 hat hlt; have HO1 : Hid _ := ho1; have HG1 : Hid _ := hg1; clear ho1 hg1 hat hlt))
      have HM : Hid (DM w1 w2 n (df (setC (fun _ => none) en en) (fun _ => 0)) (.slice (some ⟨ca, 0, none⟩) 1 cap) [en]) := by
        have h1 := (HM0.out.al _).app (Q := []) HG1.out HO1.out
        refine DM.congr h1 (fun i hi => ?_)
        by_cases e : i = en
        · subst e
          rw [updZ_same, df_some (setC_same _ _ _)]
          rfl
        · rw [updZ_other _ _ e, df_none (setC_other _ _ e)]
          exact HI.out.2 i hi
      have HBI : Hid _ := bi_start (deps := rdeps S I) (n := n) (comp := fun _ => 0) (st := en) (en := n) hen
      have HQI : Hid (QI n S I en (setC (fun _ => none) en en) (fun _ => 0) [en]) := ⟨by simp, fun v hv => by
        have : v = en := by simpa using hv
        subst this
        exact ⟨hen, _, setC_same _ _ _⟩⟩
      clear HN H1C hm1 HM2 HWs HB2 HO2 HO1 HG1 HM0 hW HI
      go_loopg [10, 11] n (fun gk s10 s11 wr => ∃ (h ql g cap : Nat) (Q : List Nat) (cf : Nat → Option Nat) (d : Nat → Nat), s10 = .slice (some ⟨g, 0, none⟩) ql cap ∧ s11 = .int .i64 (h : Int) ∧ h ≤ ql ∧ ql ≤ n ∧ n - h ≤ gk ∧ Hid (ql = Q.length ∧ DM w1 wr n (df cf d) (.slice (some ⟨g, 0, none⟩) ql cap) Q ∧ BI (rdeps S I) n (fun _ => 0) en n cf d (Q.drop h) ∧ QI n S I en cf d Q))
      case atStart => exact ⟨0, 1, ca, cap, [en], _, _, rfl, rfl, by omega, by omega, by omega, rfl, HM.out, HBI.out, HQI.out⟩
      case round =>
        obtain ⟨h, ql, g, cap1, Q, cf, d, rfl, rfl, hh, hqn, hgk2, HI⟩ := hrel
        clear HM HBI HQI
        by_cases hlt : h < ql
        · obtain ⟨a, ha⟩ : ∃ a, Q[h]? = some a := ⟨_, List.getElem?_eq_getElem (by rw [← HI.out.1]; exact hlt)⟩
          have han : a < n := (HI.out.2.2.2.seen a (List.mem_of_getElem? ha)).1
          have hq1 := HI.out.2.1.que
          rw [← HI.out.1] at hq1
          have hca := hq1.cellAt h (by omega)
          clear hq1
          rw [ints_get ha] at hca
          have hs1 : w.heap.size < w1.heap.size := by have := (Array.getElem?_eq_some_iff.1 HTP.out.row).1; exact this
          have hs2 : w.heap.size + 1 < w1.heap.size := by have := (Array.getElem?_eq_some_iff.1 HTP.out.inn).1; exact this
          have cS0 := cell_blk ((HI.out.2.1.below.block _ hs1).trans HTP.out.row) (irow_get (f := S) (v := a) (by omega))
          have cS1 := cell_blk ((HI.out.2.1.below.block _ hs1).trans HTP.out.row) (irow_get (f := S) (v := a + 1) (by omega))
          obtain ⟨up1, up2⟩ := HTP.out.rev.up a han
          have hSn := HTP.out.small
          have hent : BI2 (rdeps S I) n (fun _ => 0) en n cf d a (Q.drop (h + 1)) 0 := by
            have := HI.out.2.2.1
            rw [drop_cons ha] at this
            exact this.enter (by omega)
          have HEN : Hid _ := hent
          have HA : Hid _ := ha
          have ha0 : (0 : Int) ≤ (a : Int) := by omega
          have ha1 : (a : Int) < (n : Int) := by omega
          clear ha hent
          obtain ⟨sa, hsa⟩ : ∃ sa, sa = S a := ⟨_, rfl⟩
          obtain ⟨sb, hsb⟩ : ∃ sb, sb = S (a + 1) := ⟨_, rfl⟩
          rw [← hsa] at cS0 up1
          rw [← hsb] at cS1 up1 up2
          have HSA : Hid _ := hsa
          have HSB : Hid _ := hsb
          clear hsa hsb
          go_wp2_with fail
          obtain ⟨W0, rfl⟩ : ∃ W0, W0 = wr := ⟨_, rfl⟩
          clear cS0 cS1 hca
          go_loopg [10, 13] (sb - sa) (fun gk s10 s13 wr => ∃ (k i ql g cap : Nat) (Q : List Nat) (cf : Nat → Option Nat) (d : Nat → Nat), s10 = .slice (some ⟨g, 0, none⟩) ql cap ∧ s13 = .int .i64 (k : Int) ∧ k = sa + i ∧ k ≤ sb ∧ h < ql ∧ ql ≤ n ∧ sb - k ≤ gk ∧ Hid (ql = Q.length ∧ Q[h]? = some a ∧ DM w1 wr n (df cf d) (.slice (some ⟨g, 0, none⟩) ql cap) Q ∧ BI2 (rdeps S I) n (fun _ => 0) en n cf d a (Q.drop (h + 1)) i ∧ QI n S I en cf d Q))
          case atStart => exact ⟨sa, 0, ql, g, cap1, Q, cf, d, rfl, rfl, rfl, up1, hlt, hqn, Nat.le_refl _, HI.out.1, HA.out, HI.out.2.1, HEN.out, HI.out.2.2.2⟩
          case round =>
            obtain ⟨k, i, ql2, g2, cap2, Q2, cf2, d2, rfl, rfl, hki, hks, hhq, hqn2, hgk3, HI2⟩ := hrel
            clear HI HEN HA
            have cS1 := cell_blk ((HI2.out.2.2.1.below.block _ hs1).trans HTP.out.row) (irow_get (f := S) (v := a + 1) (by omega))
            rw [← HSB.out] at cS1
            by_cases hkl : k < sb
            · have hil : i < S (a + 1) - S a := by rw [← HSA.out, ← HSB.out]; omega
              have hb := rdeps_get (I := I) hil
              have cI := cell_blk ((HI2.out.2.2.1.below.block _ hs2).trans HTP.out.inn) (irow_get (f := I) (v := k) (by omega))
              rw [← HSA.out, ← hki] at hb
              obtain ⟨b, hbe⟩ : ∃ b, b = I k := ⟨_, rfl⟩
              rw [← hbe] at hb cI
              have hbn : b < n := HTP.out.rev.bnd a han b (List.mem_of_getElem? hb)
              obtain ⟨ua, hua⟩ := (HI2.out.2.2.2.2.seen a (List.mem_of_getElem? HI2.out.2.1)).2
              have hdn := HI2.out.2.2.2.1.base.nodes_le ua hua
              have cDb := HI2.out.2.2.1.cell (i := b) hbn
              have cDa := HI2.out.2.2.1.cell (i := a) han
              have fD := HI2.out.2.2.1.free
              rw [df_some hua] at cDa
              have HB : Hid _ := hb
              have HKI : Hid _ := hki
              clear hb hbe hua hki
              have hb0 : (0 : Int) ≤ (b : Int) := by omega
              have hb1 : (b : Int) < (n : Int) := by omega
              cases hcf : cf2 b with
              | some u =>
                rw [df_some hcf] at cDb
                have HCF : Hid _ := hcf
                clear hcf
                go_wp2_with fail
                go_roundg (sb - (k + 1))
                case measure => omega
                case rel => exact ⟨k + 1, i + 1, ql2, g2, cap2, Q2, cf2, d2, rfl, by go_num, by have := HKI.out; omega, by omega, hhq, hqn2, Nat.le_refl _, HI2.out.1, HI2.out.2.1, HI2.out.2.2.1, HI2.out.2.2.2.1.skip HB.out (.inl ⟨u, HCF.out⟩), HI2.out.2.2.2.2⟩
              | none =>
                rw [df_none hcf] at cDb
                have HCF : Hid _ := hcf
                clear hcf
                obtain ⟨x, hx⟩ : ∃ x, x = d2 a + 1 := ⟨_, rfl⟩
                have hxi : ((d2 a : Nat) : Int) + 1 = (x : Int) := by omega
                have HX : Hid _ := hx
                have HS : Hid _ := HI2.out.2.2.1.set b (x : Int)
                have hql3 := HI2.out.2.2.2.2
                have hadd := hql3.add (a := a) (k := x) hbn HCF.out
                have hlen3 := hadd.len
                rw [List.length_append, ← HI2.out.1] at hlen3
                have hlen4 : ql2 + 1 ≤ n := hlen3
                have HADD : Hid _ := hadd
                clear hx hql3 hadd hlen3
                go_upto_region 21 with fail
                generalize (wr.setCell ⟨w1.heap.size, b, none⟩ (.int .i64 (x : Int))) = V at HS ⊢
                clear cS1 cI cDb cDa fD
                have hV := HS.out.size
                have HN : Hid (∀ j y, [Value.int .i64 (b : Int)][j]? = some y → (V.alloc (.cells #[.int .i64 (b : Int)] 3)).cell? ((⟨V.heap.size, 0, none⟩ : Addr).add j) = some y) :=
                  World.news_of_block (cs := #[.int .i64 (b : Int)]) (t := 3) (fr := (0, 0)) (heap_alloc_new V _)
                have H1C : Hid (∀ y ∈ [Value.int .i64 (b : Int)], y.oneCell' = true) := by show ∀ y ∈ _, _; simp [Value.oneCell']
                have hm1 : ql2 + 1 ≤ maxLen := by unfold maxLen; omega
                have HM2 : Hid ((ql2 + 1) * 8 ≤ 140737488355328) := by show _ ≤ _; omega
                have HWs : Hid (∀ (ob : Obj), (V.alloc ob).heap.size = V.heap.size + 1) := fun ob => sz_alloc V ob
                have HB2 : Hid (∀ ob : Obj, w1.heap.size + 1 ≤ (V.alloc ob).heap.size) := fun ob => by rw [sz_alloc]; omega
                have HO2 : Hid (∀ ob : Obj, (V.alloc ob).ownsRow (w1.heap.size + 1) 3 1 (.slice (some ⟨g2, 0, none⟩) ql2 cap2) ql2 (ints Q2)) := fun ob => by
                  have := (HS.out.al ob).que
                  rw [← HI2.out.1] at this
                  exact this
                have HAp : Hid (∀ (ob : Obj) w3 qv', (V.alloc ob).grownBy w3 (some g2) → w3.ownsRow (w1.heap.size + 1) 3 1 qv' (ql2 + 1) (ints Q2 ++ [.int .i64 (b : Int)]) → DM w1 w3 n (df (setC cf2 b a) (upd d2 b x)) qv' (Q2 ++ [b])) := fun ob w3 qv' hg ho =>
                  ((HS.out.al ob).app hg (by rw [← HI2.out.1]; exact ho)).congr (fun i _ => df_set cf2 d2 a b x i)
                have HAd : Hid _ := HI2.out.2.2.2.1.add HTP.out.rev.bnd HB.out HCF.out rfl
                have hdr : (Q2 ++ [b]).drop (h + 1) = Q2.drop (h + 1) ++ [b] := List.drop_append_of_le_length (by rw [← HI2.out.1]; omega)
                have HDR : Hid _ := hdr
                clear hdr
                go_wp2_with (at_builtin; (refine wpList_append_lies _ rfl (.tmp 81) (.tmp 83) 25 rfl (w1.heap.size + 1) 3 i3 _ 1 8 Try.underlying25 hi3 hz30 hz31 hz32 rfl (by omega) (.slice (some ⟨g2, 0, none⟩) ql2 cap2) ql2 (ints Q2) rfl (HO2.out _) ⟨V.heap.size, 0, none⟩ 1 1 _ rfl rfl HN.out H1C.out (by omega) hm1 HM2.out (HB2.out _) (V.heap.size + 1) (HWs.out _) ?_; intro cb capb w3 ho1 hg1 hat hlt2; have HO1 : Hid _ := ho1; have HG1 : Hid _ := hg1; clear ho1 hg1 hat hlt2))
                go_roundg (sb - (k + 1))
                case measure => omega
                case rel =>
                  refine ⟨k + 1, i + 1, ql2 + 1, cb, capb, Q2 ++ [b], setC cf2 b a, upd d2 b x, rfl, by go_num, by have := HKI.out; omega, by omega, by omega, hlen4, Nat.le_refl _, ?_, ?_, HAp.out _ _ _ HG1.out HO1.out, ?_, HADD.out⟩
                  · rw [List.length_append, ← HI2.out.1]; rfl
                  · rw [List.getElem?_append_left (by rw [← HI2.out.1]; exact hhq)]; exact HI2.out.2.1
                  · rw [HDR.out, HX.out]; exact HAd.out
            · go_wp2_with fail
              go_roundg (n - (h + 1))
              case measure => omega
              case rel => exact ⟨h + 1, ql2, g2, cap2, Q2, cf2, d2, rfl, by go_num, by omega, hqn2, Nat.le_refl _, HI2.out.1, HI2.out.2.2.1, HI2.out.2.2.2.1.leave (by rw [rdeps_len, ← HSA.out, ← HSB.out]; omega), HI2.out.2.2.2.2⟩
        · have hdrop : Q.drop h = [] := List.drop_eq_nil_of_le (by rw [← HI.out.1]; omega)
          have hbi := HI.out.2.2.1
          rw [hdrop] at hbi
          have HBI : Hid _ := hbi
          clear hbi hdrop
          go_wp2_with fail
          go_ret
          refine ⟨w1.heap.size, rfl, HTP.out.below.trans (HI.out.2.1.below.mono HTP.out.below.size), fun st k hst hd => ?_⟩
          obtain ⟨⟨u, hu⟩, hk⟩ := dist_back HTP.out.rev HBn.out HBI.out hst hen hd
          have := HI.out.2.1.cell (i := st) hst
          rw [df_some hu, hk] at this
          exact this
end Go.Proofs.Qxb6600314a
