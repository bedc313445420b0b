/-
  WALK for seat b6600280a: jBuild (23).
-/
import Derived.Test.Qxb6600280aBI
import Derived.Test.Qxb6600280aFit
namespace Go.Proofs.Qxb6600280a
open Go.RowKit
set_option linter.unusedVariables false
attribute [local go_sem ↓] Go.wp_at_zero Go.wp_at_succ

theorem run_make0 (t e : TypeId) (z : Value) (bytes : Nat) (ht : Try.prog.underlying t = some (.slice e)) (hinfo : (Try.prog.info? e).map (fun i => (i.zero, i.size, i.bytes)) = some (some z, 1, bytes)) (hz1 : z.cells = #[z])
    (n : Nat) (hbytes : bytes * n ≤ 281474976710656) (h63 : n ≤ 9223372036854775807) (w : World) :
    (Instr.makeSlice t (.int .i64 0) (.int .i64 (n : Int))).run Try.prog w = .ok (.slice (some ⟨w.heap.size, 0, none⟩) 0 n) (w.alloc (.cells (madeCells #[z] n) e)) := by
  obtain ⟨i, hi, hzz⟩ := Option.map_eq_some_iff.1 hinfo
  simp only [Prod.mk.injEq] at hzz
  obtain ⟨hz, hs, hb⟩ := hzz
  have hb' : (i.bytes : Int) * (n : Int) ≤ 281474976710656 := by
    rw [hb]
    have : ((bytes * n : Nat) : Int) ≤ 281474976710656 := by omega
    rwa [Int.natCast_mul] at this
  have hr := run_make (P := Try.prog) w t e i z ht hi hz .i64 .i64 0 n (Int.le_refl _) (by omega) hb' (by omega)
  simpa [hs, hz1] using hr

theorem bi_start (w : World) (m : Nat) (hm : m ≤ 4096) :
    BI w ((((w.alloc (.cells #[.slice none 0 0, .int .i64 0, .int .i64 0] 57)).alloc (.cells (madeCells #[.slice none 0 0] m) 22)).alloc (.cells (madeCells #[.int .i64 0] m) 3)).alloc (.cells (madeCells #[.slice none 0 0] m) 22)) m (.slice none 0 0) [] [] [] [] := by
  have hM : m ≤ maxLen := by unfold maxLen; omega
  have s1 := sz_alloc w (.cells #[.slice none 0 0, .int .i64 0, .int .i64 0] 57)
  generalize hW1 : w.alloc (.cells #[.slice none 0 0, .int .i64 0, .int .i64 0] 57) = W1 at *
  have p1 : W1.heap[w.heap.size]? = some (.cells #[.slice none 0 0, .int .i64 0, .int .i64 0] 57 (0, 0)) := by rw [← hW1]; exact heap_alloc_new _ _
  have b1 : Below w.heap.size w W1 := by rw [← hW1]; exact below_al (Below.refl _ _) _
  have s2 := sz_alloc W1 (.cells (madeCells #[.slice none 0 0] m) 22)
  have o2 := World.ownsRow_made (e := 22) (base := w.heap.size + 1) (size := 1) W1 (madeCells #[.slice none 0 0] m) m (by omega) hM (by rw [size_madeCells]; omega)
  have p2 := Below.heap_alloc W1 (.cells (madeCells #[.slice none 0 0] m) 22) w.heap.size (by omega)
  have b2 : Below w.heap.size w (W1.alloc (.cells (madeCells #[.slice none 0 0] m) 22)) := below_al b1 _
  generalize hW2 : W1.alloc (.cells (madeCells #[.slice none 0 0] m) 22) = W2 at *
  have s3 := sz_alloc W2 (.cells (madeCells #[.int .i64 0] m) 3)
  have o3 := World.ownsRow_made (e := 3) (base := w.heap.size + 1) (size := 1) W2 (madeCells #[.int .i64 0] m) m (by omega) hM (by rw [size_madeCells]; omega)
  have p3 := Below.heap_alloc W2 (.cells (madeCells #[.int .i64 0] m) 3) w.heap.size (by omega)
  have o2' := o2.alloc (.cells (madeCells #[.int .i64 0] m) 3)
  have b3 : Below w.heap.size w (W2.alloc (.cells (madeCells #[.int .i64 0] m) 3)) := below_al b2 _
  generalize hW3 : W2.alloc (.cells (madeCells #[.int .i64 0] m) 3) = W3 at *
  have o4 := World.ownsRow_made (e := 22) (base := w.heap.size + 1) (size := 1) W3 (madeCells #[.slice none 0 0] m) m (by omega) hM (by rw [size_madeCells]; omega)
  have p4 := Below.heap_alloc W3 (.cells (madeCells #[.slice none 0 0] m) 22) w.heap.size (by omega)
  rw [s1] at o2'
  rw [s2, s1] at o3
  rw [s3, s2, s1] at o4
  exact ⟨below_al b3 _, ⟨0, 0, by rw [p4, p3, p2, p1]⟩, World.ownsRow_nil _ _ _ _, o2'.alloc _, o3.alloc _, o4, fun r hr => by simp at hr, by simp⟩

theorem row_made {w : World} {G L : Nat} (h : G = w.heap.size) : Row (w.alloc (.cells (madeCells #[.int .u8 0] L) 5)) G L (List.replicate L 0) := by
  subst h
  refine ⟨by simp, (heap_alloc_new _ _).trans ?_⟩
  congr 2
  apply Array.ext'
  rw [made_list]
  simp
theorem Row.cell {w : World} {g L : Nat} {bs : List Int} (h : Row w g L bs) {j : Nat} (hj : j < L) : w.cell? ⟨g, j, none⟩ = some (.int .u8 (bs.getD j 0)) := by
  have := h.1
  simp [World.cell?, h.2, show j < bs.length by omega]
theorem Row.free {w : World} {g L : Nat} {bs : List Int} (h : Row w g L bs) (j : Nat) : w.frozen? ⟨g, j, none⟩ = false := by
  simp [World.frozen?, h.2]
theorem Row.set {w : World} {g L : Nat} {bs : List Int} (h : Row w g L bs) (j : Nat) (x : Int) : Row (w.setCell ⟨g, j, none⟩ (.int .u8 x)) g L (bs.set j x) := by
  refine ⟨by simpa using h.1, (heap_setCell_same h.2 _).trans ?_⟩
  congr 2
  apply Array.ext'
  simp [List.map_set]

section
variable {w wr : World} {m k : Nat} {v : Value} {RL B H : List Rec} {E : List (Nat × Nat)}
theorem BI.bufs_k (h : BI w wr m v RL B H E) (hk : B.length = k) (ob : Obj) : (wr.alloc ob).ownsRow (w.heap.size + 1) 22 1 (.slice (some ⟨w.heap.size + 1, 0, none⟩) k m) k (B.map Rec.bufv) := by
  subst hk; exact h.bufs.alloc ob
theorem BI.heads_k (h : BI w wr m v RL B H E) (hk : H.length = k) (ob : Obj) : (wr.alloc ob).ownsRow (w.heap.size + 1) 3 1 (.slice (some ⟨w.heap.size + 2, 0, none⟩) k m) k (H.map Rec.headv) := by
  subst hk; exact h.heads.alloc ob
theorem BI.elems_k (h : BI w wr m v RL B H E) (hk : E.length = k) (ob : Obj) : (wr.alloc ob).ownsRow (w.heap.size + 1) 22 1 (.slice (some ⟨w.heap.size + 3, 0, none⟩) k m) k (E.map elv) := by
  subst hk; exact h.elems.alloc ob
theorem BI.al (h : BI w wr m v RL B H E) (ob : Obj) : BI w (wr.alloc ob) m v RL B H E := h.fresh (below_al (Below.refl _ _) ob)
end
theorem one_new (w : World) (t : TypeId) (x : Value) : ∀ j u, [x][j]? = some u → (w.alloc (.cells #[x] t)).cell? ((⟨w.heap.size, 0, none⟩ : Addr).add j) = some u :=
  World.news_of_block (cs := #[x]) (t := t) (fr := (0, 0)) (heap_alloc_new w _)

/-- How the records stand to the arguments. -/
structure Desc (RL : List Rec) (E : List (Nat × Nat)) (k l3 : Nat) (ow : List Bool) : Prop where
  len : RL.length = k
  es : E.map (·.2) = RL.map fun r => r.e - r.s
  own : ∀ j r, RL[j]? = some r → r.o = if j < l3 then ow.getD j false else false

theorem psum_mono (sz : List Int) (h : ∀ k, k < sz.length → 0 ≤ sz.getD k 0) : ∀ j k, j ≤ k → k ≤ sz.length → psum sz j ≤ psum sz k := by
  intro j k hjk
  induction k with
  | zero => intro _; rw [show j = 0 from by omega]; exact Int.le_refl _
  | succ k ih =>
    intro hk
    by_cases e : j = k + 1
    · rw [e]; exact Int.le_refl _
    · have := ih (by omega) (by omega)
      rw [psum_succ sz k (by omega)]
      have := h k (by omega)
      omega

set_option maxRecDepth 100000 in
set_option maxHeartbeats 2000000 in
theorem build23 (w : World) (a0 : Option Addr) (l0 c0 : Nat) (dat : List Int) (h0 : HasI .u8 w a0 l0 c0 dat) (hc0 : l0 ≤ c0) (a1 : Option Addr) (l1 c1 : Nat) (sz : List Int) (h1 : HasI .i64 w a1 l1 c1 sz) (a2 : Option Addr) (l2 c2 : Nat) (ct : List Int) (h2 : HasI .i64 w a2 l2 c2 ct)
    (a3 : Option Addr) (l3 c3 : Nat) (ow : List Bool) (h3 : HasB w a3 l3 c3 ow) (a4 : Option Addr) (l4 c4 : Nat) (rm : List Int) (h4 : HasI .i64 w a4 l4 c4 rm) (f l : Int)
    (m0 : l0 ≤ 524288) (m1 : l1 ≤ 4096) (m2 : l2 ≤ 4096) (m3 : l3 ≤ 4096) (m4 : l4 ≤ 4096) (hF : Fit l0 sz rm f l) :
    Calls Try.prog 23 #[.slice a0 l0 c0, .slice a1 l1 c1, .slice a2 l2 c2, .slice a3 l3 c3, .slice a4 l4 c4] w fun r w' => ∃ v RL E,
      r = .returned (.tuple #[.pointer (some ⟨w.heap.size, 0, none⟩), .slice (some ⟨w.heap.size + 1, 0, none⟩) l1 l1, .slice (some ⟨w.heap.size + 2, 0, none⟩) l1 l1, .slice (some ⟨w.heap.size + 3, 0, none⟩) l1 l1]) ∧
      BI w w' l1 v RL RL RL E ∧ Desc RL E l1 l3 ow := by
  have mk22 := run_make0 35 22 (.slice none 0 0) 24 Try.underlying35 Try.info22 rfl l1 (by omega) (by omega)
  have mk3 := run_make0 31 3 (.int .i64 0) 8 Try.underlying31 Try.info3 rfl l1 (by omega) (by omega)
  have HL1 : Hid (sz.length = l1) := h1.length
  have HL4 : Hid (rm.length = l4) := h4.length
  have HF : Hid (Fit l0 sz rm f l) := hF
  have H0 : Hid (HasI .u8 w a0 l0 c0 dat) := h0
  have H1 : Hid (HasI .i64 w a1 l1 c1 sz) := h1
  have H2 : Hid (HasI .i64 w a2 l2 c2 ct) := h2
  have H3 : Hid (HasB w a3 l3 c3 ow) := h3
  have H4 : Hid (HasI .i64 w a4 l4 c4 rm) := h4
  clear hF h0 h1 h2 h3 h4
  go_enter Try.func23, Try.ntmps23
  go_wp2_with (go_at_call 37; refine (new37 _).mono ?_; rintro r w' ⟨rfl, rfl⟩)
  clear mk22 mk3
  go_loopw [15, 16, 17, 18, 19] (fun b h e o i wr => ∃ (k off : Nat) (v : Value) (RL : List Rec) (E : List (Nat × Nat)), k ≤ l1 ∧ b = .slice (some ⟨w.heap.size + 1, 0, none⟩) k l1 ∧ h = .slice (some ⟨w.heap.size + 2, 0, none⟩) k l1 ∧ e = .slice (some ⟨w.heap.size + 3, 0, none⟩) k l1 ∧ o = .int .i64 off ∧ i = .int .i64 k ∧
    Hid ((off : Int) = psum sz k) ∧ Hid (BI w wr l1 v RL RL RL E) ∧ Hid (Desc RL E k l3 ow)) (fun _ _ _ _ i _ => l1 - (intOf i).toNat)
  case atStart => exact ⟨0, 0, _, [], [], Nat.zero_le _, rfl, rfl, rfl, rfl, rfl, by show (0 : Int) = _; rw [psum_zero], bi_start w l1 m1, ⟨rfl, rfl, fun j r h => by simp at h⟩⟩
  case round =>
    obtain ⟨k, off, v, RL, E, hk, rfl, rfl, rfl, rfl, rfl, HO, HI, HD⟩ := hrel
    by_cases hlt : k < l1
    · have HB : Hid (Below w.heap.size w wr) := HI.out.below
      obtain ⟨b1, o1, rfl, -, hc1⟩ := (H1.out.below HB.out (Nat.le_refl _)).get hlt
      have hsk := HF.out.sizes k (by rw [HL1.out]; exact hlt)
      obtain ⟨d, hd⟩ : ∃ d : Nat, sz.getD k 0 = d := ⟨(sz.getD k 0).toNat, by omega⟩
      rw [hd] at hc1 hsk
      have hd1 : 1 ≤ d := by omega
      have hd2 : d ≤ 65536 := by omega
      have HPs : Hid (((off + d : Nat) : Int) = psum sz (k + 1)) := by
        show _ = _
        rw [psum_succ sz k (by rw [HL1.out]; exact hlt), ← HO.out, hd]; omega
      have hoff : off + d ≤ l0 := by
        have e1 := psum_mono sz (fun k hk => by have := (HF.out.sizes k hk).1; omega) (k + 1) sz.length (by rw [HL1.out]; omega) (Nat.le_refl _)
        have e2 := HF.out.total
        have e3 := HPs.out
        omega
      obtain ⟨ρ, hρ, hρ2⟩ : ∃ ρ : Nat, (if k < l4 then rm.getD k 0 else 0) = (ρ : Int) ∧ ρ ≤ 8192 := by
        by_cases h : k < l4
        · have := HF.out.rooms k (by rw [HL4.out]; exact h)
          exact ⟨(rm.getD k 0).toNat, by rw [if_pos h]; omega, by omega⟩
        · exact ⟨0, by rw [if_neg h]; rfl, by omega⟩
      have A27 : Calls Try.prog 27 #[.slice a4 l4 c4, .int .i64 k, .int .i64 0] wr fun e w' => e = .returned (.int .i64 ρ) ∧ w' = wr := by
        rw [← hρ]; exact atInt27 wr a4 l4 c4 rm (H4.out.below HB.out (Nat.le_refl _)) k 0 m4 (by omega)
      obtain ⟨η, hη⟩ : ∃ η, η = ρ / 2 := ⟨_, rfl⟩
      obtain ⟨L, hL⟩ : ∃ L, L = η + d + ρ := ⟨_, rfl⟩
      have hηq : Int.tdiv (ρ : Int) 2 = (η : Int) := by rw [hη, Int.tdiv_eq_ediv_of_nonneg (by omega)]; omega
      have hLi : (η : Int) + (d : Int) + (ρ : Int) = (L : Int) := by omega
      have hη2 : η ≤ 4096 := by omega
      have hL2 : L ≤ 262144 := by omega
      have hL3 : η + d ≤ L := by omega
      have mk := run_make_row' (P := Try.prog) 22 5 (.int .u8 0) 1 Try.underlying22 Try.info5 rfl .i64 .i64 L (by omega) (by omega)
      clear hρ hη hL hd hsk
      go_wp2_with (go_at_call 27; refine A27.mono ?_; rintro r w' ⟨rfl, hw'⟩; obtain rfl : wr = w' := hw'.symm)
      clear mk A27 hc1
      obtain ⟨W, rfl⟩ : ∃ W, W = wr := ⟨_, rfl⟩
      obtain ⟨G, hG⟩ : ∃ G, G = W.heap.size := ⟨_, rfl⟩
      have HG : Hid (G = W.heap.size) := hG
      rw [← hG]
      clear hG
      go_loopw [24] (fun q wx => ∃ (j : Nat) (bs : List Int), j ≤ L ∧ q = .int .i64 j ∧ Hid (Row wx G L bs) ∧ Hid (Below W.heap.size W wx)) (fun q _ => L - (intOf q).toNat)
      case atStart => exact ⟨0, _, Nat.zero_le _, rfl, row_made HG.out, below_al (Below.refl _ _) _⟩
      case round =>
        obtain ⟨j, bs, hj, rfl, HR, HBl⟩ := hrel
        by_cases hjl : j < L
        · have q1 := HR.out.cell hjl
          have q2 := HR.out.free j
          go_wp2_with fail
          go_round
          case rel => exact ⟨j + 1, _, by omega, by go_num, HR.out.set j 165, HBl.out.setCell (by rw [HG.out]; exact Nat.le_refl _) _⟩
          case measure => simp [intOf]; omega
        · obtain ⟨b0, o0, rfl, -, hcd⟩ := Has.at (H0.out.below HB.out (Nat.le_refl _)) (show 0 < l0 by omega)
          obtain ⟨t, ht⟩ : ∃ t, t = η + d := ⟨_, rfl⟩
          obtain ⟨u, hu⟩ : ∃ u, u = off + d := ⟨_, rfl⟩
          have hti : (η : Int) + (d : Int) = (t : Int) := by omega
          have hui : (off : Int) + (d : Int) = (u : Int) := by omega
          have hu1 : off ≤ u := by omega
          have hu2 : u ≤ l0 := by omega
          have ht1 : η ≤ t := by omega
          have ht2 : t ≤ L := by omega
          have HT : Hid (t = η + d) := ht
          have HU : Hid (u = off + d) := hu
          have HDl : Hid (dat.length = l0) := H0.out.length
          have hwt : IntKind.i64.wrap (t : Int) = (t : Int) := by rw [IntKind.wrap_i64]; omega
          have hwu : IntKind.i64.wrap (u : Int) = (u : Int) := by rw [IntKind.wrap_i64]; omega
          have hI1 : (0 : Int) ≤ (η : Int) := by omega
          have hI2 : (η : Int) ≤ (t : Int) := by omega
          have hI3 : (t : Int) ≤ (L : Int) := by omega
          have hI4 : (0 : Int) ≤ (off : Int) := by omega
          have hI5 : (off : Int) ≤ (u : Int) := by omega
          have hI6 : (u : Int) ≤ (c0 : Int) := by omega
          have hn1 : ¬ L = η := by omega
          have hn2 : ¬ c0 = off := by omega
          clear ht hu
          have hsrc : ∀ W2, Below W.heap.size W W2 → ∀ j v, (((dat.drop off).take d).map (Value.int .u8))[j]? = some v → W2.cell? ((⟨b0, o0 + off, none⟩ : Addr).add j) = some v := fun W2 hb j v hv => by
            rw [Addr.add_lit]
            rw [List.getElem?_map, List.getElem?_take, List.getElem?_drop] at hv
            by_cases hj : j < d
            · rw [if_pos hj] at hv
              refine cell_later hb ?_
              rw [show o0 + off + j = o0 + (off + j) from by omega]
              exact hcd (off + j) v (by rw [List.getElem?_map]; exact hv)
            · rw [if_neg hj] at hv
              simp at hv
          have hxl : (((dat.drop off).take d).map (Value.int .u8)).length = d := by simp [HDl.out]; omega
          have HS : Hid (∀ W2, Below W.heap.size W W2 → ∀ j v, (((dat.drop off).take d).map (Value.int .u8))[j]? = some v → W2.cell? ((⟨b0, o0 + off, none⟩ : Addr).add j) = some v) := hsrc
          have HX : Hid ((((dat.drop off).take d).map (Value.int .u8)).length = d) := hxl
          clear hsrc hxl hcd
          go_upto_region 17 with fail
          go_cut [] (fun wx => ∃ bs, Row wx G L bs ∧ Below W.heap.size W wx)
          case first =>
            obtain ⟨F, hF1, hF2, hF3⟩ := copy_runs wr G η (t - η) (L - η) ⟨b0, o0 + off, none⟩ (u - off) (c0 - off) (bs.map (Value.int .u8)) (((dat.drop off).take d).map (Value.int .u8)) HR.out.2 (by rw [HX.out, HT.out, HU.out]; show d = min _ _; omega) (HS.out _ HBl.out) (by rw [HX.out, List.length_map, HR.out.1]; have := HT.out; omega) (ints_oneCell .u8 _)
            have hFd : (Builtin.copy_ #[22, 22] 3 #[.slice (some ⟨G, η, none⟩) (t - η) (L - η), .slice (some ⟨b0, o0 + off, none⟩) (u - off) (c0 - off)]).run Try.prog wr.drew = _ := hF1 1
            rw [HX.out] at hFd
            have HF2 : Hid _ := hF2
            have HF3 : Hid (∀ k, wr.grownBy (F k) (some G)) := hF3
            clear hF1 hF2 hF3
            go_region
            go_wp2_with fail
            go_meet
            refine ⟨splice bs η ((dat.drop off).take d), ⟨?_, by rw [← map_splice]; exact HF2.out 1⟩, HBl.out.grown (HF3.out 1) HBl.out.size (fun k hk => by cases hk; rw [HG.out]; exact Nat.le_refl _)⟩
            have e1 := HX.out
            rw [List.length_map] at e1
            rw [length_splice _ _ _ (by rw [e1, HR.out.1]; have := HT.out; omega), HR.out.1]
          case rest =>
            obtain ⟨bs2, hR2, hB2⟩ := hcut
            have HR2 : Hid (Row wc G L bs2) := hR2
            have HB2 : Hid (Below W.heap.size W wc) := hB2
            clear hR2 hB2 HR HBl
            have mk2 := run_make_row' (P := Try.prog) 22 5 (.int .u8 0) 1 Try.underlying22 Try.info5 rfl .i64 .i64 d (by omega) (by omega)
            have hX := row_made (w := wc) (L := d) rfl
            have hXb : Below W.heap.size W (wc.alloc (.cells (madeCells #[.int .u8 0] d) 5)) := HB2.out.alloc HB2.out.size _
            obtain ⟨F, hF1, hF2, hF3⟩ := copy_runs (wc.alloc (.cells (madeCells #[.int .u8 0] d) 5)) wc.heap.size 0 d d ⟨b0, o0 + off, none⟩ (u - off) (c0 - off) _ (((dat.drop off).take d).map (Value.int .u8)) hX.2 (by rw [HX.out, HU.out]; show d = min _ _; omega) (HS.out _ hXb) (by rw [HX.out]; simp) (ints_oneCell .u8 _)
            have hF0 : (Builtin.copy_ #[22, 22] 3 #[.slice (some ⟨wc.heap.size, 0, none⟩) d d, .slice (some ⟨b0, o0 + off, none⟩) (u - off) (c0 - off)]).run Try.prog (wc.alloc (.cells (madeCells #[.int .u8 0] d) 5)) = _ := hF1 0
            rw [HX.out] at hF0
            have lG : G < wc.heap.size := HR2.out.lt
            have HRV : Hid (Row (F 0) G L bs2) := ⟨HR2.out.1, ((hF3 0).block G (by rw [sz_alloc]; omega) (by simp; omega)).trans ((Below.heap_alloc _ _ _ lG).trans HR2.out.2)⟩
            have HBV : Hid (Below W.heap.size W (F 0)) := hXb.grown (hF3 0) hXb.size (fun k hk => by cases hk; exact HB2.out.size)
            clear hF1 hF2 hF3 hX hXb
            generalize F 0 = V at hF0 HRV HBV
            go_upto_region 20 with fail
            clear hF0 mk2
            have HIV : Hid (BI w V l1 v RL RL RL E) := HI.out.fresh HBV.out
            have HBw : Hid (Below w.heap.size w V) := HIV.out.below
            obtain ⟨cv, hcv⟩ : ∃ cv, cv = (if k < l2 then ct.getD k 0 else 1) := ⟨_, rfl⟩
            obtain ⟨ob, hob⟩ : ∃ ob, ob = (if k < l3 then ow.getD k false else false) := ⟨_, rfl⟩
            have A27 : Calls Try.prog 27 #[.slice a2 l2 c2, .int .i64 k, .int .i64 1] V fun e w' => e = .returned (.int .i64 cv) ∧ w' = V := by
              rw [hcv]; exact atInt27 V a2 l2 c2 ct (H2.out.below HBw.out (Nat.le_refl _)) k 1 m2 (by omega)
            have A32 : Calls Try.prog 32 #[.slice a3 l3 c3, .int .i64 k] V fun e w' => e = .returned (.bool ob) ∧ w' = V := by
              rw [hob]; exact owned32 V a3 l3 c3 ow (H3.out.below HBw.out (Nat.le_refl _)) k m3 (by omega)
            obtain ⟨p1, p2, hpc⟩ := HIV.out.pc
            have A38 := app38 V w.heap.size (w.heap.size + 4) k v (recs RL) p1 p2 hpc (by have := HIV.out.own; rw [HD.out.len] at this; exact this) (fun e => by have := (HIV.out.vlt e).1; omega) HIV.out.szs (by omega) G L η t cv ob
            rw [← recs_snoc RL ⟨G, L, η, t, cv, ob⟩] at A38
            have HOb : Hid _ := hob
            clear hcv hob hpc
            go_upto_region 22 with (first | (go_at_call 27; refine A27.mono ?_; rintro r w' ⟨rfl, hw'⟩; obtain rfl : V = w' := hw'.symm) | (go_at_call 32; refine A32.mono ?_; rintro r w' ⟨rfl, hw'⟩; obtain rfl : V = w' := hw'.symm) | (go_at_call 38; refine A38.mono ?_; rintro r w' ⟨rfl, hA⟩))
            clear A27 A32 A38
            have hgood : Good V w.heap.size v ⟨G, L, η, t, cv, ob⟩ := by
              have e1 := HG.out
              have e2 := HI.out.szs
              have e3 := HT.out
              refine ⟨⟨bs2, HRV.out⟩, by show _ ≤ G; omega, fun e => ?_, by show η < t; omega, ht2, hL2⟩
              have e4 := (HI.out.vlt e.symm).2
              dsimp only at e4
              omega
            obtain ⟨v', hBI⟩ := HIV.out.app hgood (fun q hq e => by have e1 := (HI.out.good q hq).lt; have e2 := HG.out; dsimp only at e; omega) (by rw [HD.out.len]; exact hA)
            have HI6 : Hid (BI w w' l1 v' (RL ++ [⟨G, L, η, t, cv, ob⟩]) RL RL E) := hBI
            clear hA hgood hBI HIV HBw HRV HBV
            obtain ⟨i22, hi22, hz22, hs22, hb22⟩ := info_parts Try.info22
            obtain ⟨i3, hi3, hz3, hs3, hb3⟩ := info_parts Try.info3
            have hk1 : k + 1 ≤ l1 := hlt
            have HO7 : Hid (∀ ob : Obj, (w'.alloc ob).ownsRow (w.heap.size + 1) 22 1 (.slice (some ⟨w.heap.size + 1, 0, none⟩) k l1) k (RL.map Rec.bufv)) := fun ob => HI6.out.bufs_k HD.out.len ob
            have HN7 : Hid (∀ x t, ∀ j u, [x][j]? = some u → (w'.alloc (.cells #[x] t)).cell? ((⟨w'.heap.size, 0, none⟩ : Addr).add j) = some u) := fun x t => one_new w' t x
            have H1c : Hid (∀ q : Rec, ∀ u ∈ [q.bufv], u.oneCell' = true) := fun q => by simp [Rec.bufv, Value.oneCell']
            go_upto_region 23 with (at_builtin; (refine wpList_append_fits _ rfl (.tmp 105) (.tmp 107) 35 rfl (w.heap.size + 1) 22 i22 1 Try.underlying35 hi22 hs22 (w.heap.size + 1) k l1 _ rfl (HO7.out _) ⟨w'.heap.size, 0, none⟩ 1 1 [(Rec.mk G L η t cv ob).bufv] rfl rfl (HN7.out _ 22) (H1c.out _) hk1 ?_; intro w7 ho7 hg7))
            have HI7 : Hid (BI w w7 l1 v' (RL ++ [⟨G, L, η, t, cv, ob⟩]) (RL ++ [⟨G, L, η, t, cv, ob⟩]) RL E) := (HI6.out.al _).row1 hg7 (by rw [HD.out.len]; exact ho7)
            clear ho7 hg7 HI6 HO7 HN7 H1c
            have HO8 : Hid (∀ ob : Obj, (w7.alloc ob).ownsRow (w.heap.size + 1) 3 1 (.slice (some ⟨w.heap.size + 2, 0, none⟩) k l1) k (RL.map Rec.headv)) := fun ob => HI7.out.heads_k HD.out.len ob
            have HN8 : Hid (∀ x t, ∀ j u, [x][j]? = some u → (w7.alloc (.cells #[x] t)).cell? ((⟨w7.heap.size, 0, none⟩ : Addr).add j) = some u) := fun x t => one_new w7 t x
            have H1c : Hid (∀ q : Rec, ∀ u ∈ [q.headv], u.oneCell' = true) := fun q => by simp [Rec.headv, Value.oneCell']
            go_upto_region 24 with (at_builtin; (refine wpList_append_fits _ rfl (.tmp 109) (.tmp 111) 31 rfl (w.heap.size + 1) 3 i3 1 Try.underlying31 hi3 hs3 (w.heap.size + 2) k l1 _ rfl (HO8.out _) ⟨w7.heap.size, 0, none⟩ 1 1 [(Rec.mk G L η t cv ob).headv] rfl rfl (HN8.out _ 3) (H1c.out _) hk1 ?_; intro w8 ho8 hg8))
            have HI8 : Hid (BI w w8 l1 v' (RL ++ [⟨G, L, η, t, cv, ob⟩]) (RL ++ [⟨G, L, η, t, cv, ob⟩]) (RL ++ [⟨G, L, η, t, cv, ob⟩]) E) := (HI7.out.al _).row2 hg8 (by rw [HD.out.len]; exact ho8)
            clear ho8 hg8 HI7 HO8 HN8 H1c
            have hEl : E.length = k := by have := congrArg List.length HD.out.es; simpa [HD.out.len] using this
            have HEl : Hid (E.length = k) := hEl
            clear hEl
            have HO9 : Hid (∀ ob : Obj, (w8.alloc ob).ownsRow (w.heap.size + 1) 22 1 (.slice (some ⟨w.heap.size + 3, 0, none⟩) k l1) k (E.map elv)) := fun ob => HI8.out.elems_k HEl.out ob
            have HN9 : Hid (∀ x t, ∀ j u, [x][j]? = some u → (w8.alloc (.cells #[x] t)).cell? ((⟨w8.heap.size, 0, none⟩ : Addr).add j) = some u) := fun x t => one_new w8 t x
            have H1c : Hid (∀ q : Nat × Nat, ∀ u ∈ [elv q], u.oneCell' = true) := fun q => by simp [elv, Value.oneCell']
            go_wp2_with (at_builtin; (refine wpList_append_fits _ rfl (.tmp 113) (.tmp 115) 35 rfl (w.heap.size + 1) 22 i22 1 Try.underlying35 hi22 hs22 (w.heap.size + 3) k l1 _ rfl (HO9.out _) ⟨w8.heap.size, 0, none⟩ 1 1 [elv (wc.heap.size, d)] rfl rfl (HN9.out _ 22) (H1c.out _) hk1 ?_; intro w9 ho9 hg9))
            have HI9 : Hid (BI w w9 l1 v' (RL ++ [⟨G, L, η, t, cv, ob⟩]) (RL ++ [⟨G, L, η, t, cv, ob⟩]) (RL ++ [⟨G, L, η, t, cv, ob⟩]) (E ++ [(wc.heap.size, d)])) := (HI8.out.al _).row3 hg9 (by rw [HEl.out]; exact ho9)
            clear ho9 hg9 HI8 HO9 HN9 H1c
            go_round
            case rel =>
              refine ⟨k + 1, u, v', _, _, by omega, rfl, rfl, rfl, by go_num, by go_num, by show (u : Int) = _; rw [HU.out]; exact HPs.out, HI9.out, ⟨by simp [HD.out.len], ?_, fun j r hr => ?_⟩⟩
              · rw [List.map_append, List.map_append, HD.out.es]
                simp [HT.out]
              · by_cases hjk : j < RL.length
                · rw [List.getElem?_append_left hjk] at hr
                  exact HD.out.own j r hr
                · rw [List.getElem?_append_right (by omega)] at hr
                  have hj0 : j - RL.length = 0 := by
                    have := (List.getElem?_eq_some_iff.1 hr).1
                    simp at this
                    omega
                  rw [hj0] at hr
                  obtain rfl : Rec.mk G L η t cv ob = r := by simpa using hr
                  obtain rfl : j = k := by have := HD.out.len; omega
                  exact HOb.out
            case measure => simp [intOf]; omega
    · obtain rfl : l1 = k := by omega
      go_wp2_with fail
      refine bodyPost_ret (v := .tuple #[.pointer (some ⟨w.heap.size, 0, none⟩), .slice (some ⟨w.heap.size + 1, 0, none⟩) l1 l1, .slice (some ⟨w.heap.size + 2, 0, none⟩) l1 l1, .slice (some ⟨w.heap.size + 3, 0, none⟩) l1 l1]) (by simp [results, Try.results23, go_sem]) rfl ?_
      exact ⟨v, RL, E, rfl, HI.out, HD.out⟩
end Go.Proofs.Qxb6600280a
