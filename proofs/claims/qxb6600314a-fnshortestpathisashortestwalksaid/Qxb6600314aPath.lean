/-
  WALK for seat b6600314a: shortestPath (21).
-/
import Derived.Test.Qxb6600314aRev
import Derived.Test.Qxb6600314aComps
namespace Go.Proofs.Qxb6600314a
open Go.RowKit
set_option linter.unusedVariables false

/-- What shortestPath answers. -/
structure PathIs (deps : Nat → List Nat) (st en : Nat) (L : List Nat) : Prop where
  first : L[0]? = some st
  last : L[L.length - 1]? = some en
  chain : ∀ j x y, L[j]? = some x → L[j + 1]? = some y → y ∈ deps x
  dist : IsDist deps st en (L.length - 1)
  pos : 0 < L.length
  bnd : L.length ≤ 65537

theorem owns_mono {w : World} {base base' : Nat} {e : TypeId} {size : Nat} {v : Value} {n : Nat} {xs : List Value} (h : w.ownsRow base e size v n xs) (hb : base' ≤ base) : w.ownsRow base' e size v n xs :=
  ⟨h.1, h.2.imp id fun ⟨g, cap, cur, h1, h2, h3⟩ => ⟨g, cap, cur, h1, Nat.le_trans hb h2, h3⟩⟩

theorem Back.path {deps : Nat → List Nat} {st en : Nat} {R : List Nat} (h : Back deps en st R) (hd : IsDist deps st en (R.length - 1)) (hb : R.length ≤ 65537) : PathIs deps st en R.reverse := by
  have hne : R ≠ [] := fun e => by have := h.first; rw [e] at this; cases this
  have hlen : 0 < R.length := List.length_pos_iff.2 hne
  refine ⟨?_, ?_, fun j x y hx hy => ?_, by rw [List.length_reverse]; exact hd, by rw [List.length_reverse]; exact hlen, by rw [List.length_reverse]; exact hb⟩
  · rw [List.getElem?_reverse hlen, Nat.sub_zero, ← List.getLast?_eq_getElem?]
    exact h.last
  · rw [List.length_reverse, List.getElem?_reverse (by omega), Nat.sub_self]
    exact h.first
  · have h1 : j + 1 < R.reverse.length := (List.getElem?_eq_some_iff.1 hy).1
    rw [List.length_reverse] at h1
    rw [List.getElem?_reverse (by omega)] at hx hy
    rw [show R.length - 1 - j = (R.length - 1 - (j + 1)) + 1 from by omega] at hx
    exact h.chain _ y x hy hx

theorem wpList_append_eq {P : Program} (w : World) {ops : Array Oper} {rest : List Oper} {o : Oper} {a : Act} {Q : Exit → Act → World → Prop} (hgd : o.guard = none) (s x : Operand) (t : TypeId)
    (ho : o.op = .call { callee := .builtin .append, args := #[s, x], argTypes := #[t, t] }) {v y v' : Value} {w' : World} (hs : a.eval s = v) (hx : a.eval x = y) (hrun : (Builtin.append_ #[t, t] o.type #[v, y]).run P w = .ok v' w')
    (hK : wpList P ops Q rest (a.put o.dst v') w') : wpList P ops Q (o :: rest) a w := by
  refine wpList_plain hgd fun K hK' => ?_
  unfold Oper.wp
  simp [execOp, ho, resolve, invoke, builtin, hs, hx, hrun, Result.andThen]
  exact hK' _ _ hK

theorem BM.lookOk0 {w wr : World} {cf : Nat → Option Nat} {cnt g off cap : Nat} {q : List Nat} (h : BM w wr cf cnt g off cap q) {x : Nat} (hx : x ≤ 65536) : ∃ c, (Instr.lookup 41 (.map (some w.heap.size)) (.int .i64 (x : Int)) true).run Try.prog wr = .ok (.tuple #[.int .i64 c, .bool (cf x).isSome]) wr := by
  obtain ⟨c, hc⟩ := h.lookOk hx
  exact ⟨c, hc 0⟩

set_option maxRecDepth 100000 in
set_option maxHeartbeats 1000000 in
theorem path21 (w : World) (D n C : Nat) (deps : Nat → List Nat) (comp : Nat → Nat) (hG : Graph w D n deps) (hn : n ≤ 65536) (hC : Comps deps n comp) (hc : w.heap[C]? = some (.cells (irow n comp) 3 (0, 0))) (st en : Nat) (hst : st < n) (hen : en < n) (hse : comp en = comp st) :
    Calls Try.prog 21 #[.slice (some ⟨D, 0, none⟩) n n, .slice (some ⟨C, 0, none⟩) n n, .int .i64 (st : Int), .int .i64 (en : Int)] w fun r w' => ∃ g cap L, r = .returned (.slice (some ⟨g, 0, none⟩) L.length cap) ∧ Below w.heap.size w w' ∧ w'.ownsRow w.heap.size 3 1 (.slice (some ⟨g, 0, none⟩) L.length cap) L.length (ints L) ∧ PathIs deps st en L := by
  have mp : (Instr.makeMap 41 none).run Try.prog w = .ok (.map (some w.heap.size)) (w.alloc (.map #[] 0)) := rfl
  have HG : Hid _ := hG
  have HC : Hid _ := hC
  have HCC : Hid _ := hc
  have HSE : Hid _ := hse
  have hmade := World.ownsMap_made w Try.prog 3 (plainElem (H := Unit) Try.prog 3)
  obtain ⟨w1, hrun, ho, ht⟩ := hmade.store law3 Try.underlying41 (by decide) (nkey (x := st) (by omega)) (plainElem_int Try.underlying3 (lit_wf (x := st) (by omega)))
  have hBM : BM w (w1.alloc (.cells #[.int .i64 (st : Int)] 3)) (setC (fun _ => none) st st) 1 w1.heap.size 0 1 [st] := by
    have hgr := ht.grown
    have hlt := ho.lt
    refine ⟨(((Below.refl _ w).alloc (Nat.le_refl _) _).grown hgr (by rw [sz_alloc]; omega) (fun k hk => by cases hk; exact Nat.le_refl _)).alloc (by omega) _, ⟨_, ho.alloc _, mapis_nil.put st st ho.isMap⟩, by omega, ⟨_, heap_alloc_new _ _, by simp, fun j hj => ?_⟩, by simp⟩
    have : j = 0 := by simpa using hj
    subst this
    rfl
  have HBM : Hid _ := hBM
  have HBI : Hid _ := bi_start (deps := deps) (n := n) (comp := comp) (st := st) (en := en) hst
  clear hmade ho ht hBM hG hC hc hse
  go_enter Try.func21, Try.ntmps21
  go_wp2_with fail
  clear mp hrun
  have HU : Hid (1 + unseen n (setC (fun _ => none) st st) = n) := by
    have := unseen_set (n := n) (cf := fun _ => none) (a := st) (b := st) hst rfl
    rw [unseen_all] at this
    show _ = _
    omega
  go_loopg [10] n (fun gk s10 wr => ∃ (cf : Nat → Option Nat) (cnt g off cap : Nat) (q : List Nat) (d : Nat → Nat), s10 = .slice (some ⟨g, off, none⟩) q.length cap ∧ Hid (unseen n cf + q.length ≤ gk ∧ cnt + unseen n cf = n ∧ BM w wr cf cnt g off cap q ∧ BI deps n comp st en cf d q))
  case atStart => exact ⟨_, 1, w1.heap.size, 0, 1, [st], _, rfl, by have := HU.out; simp only [List.length_cons, List.length_nil]; omega, HU.out, HBM.out, HBI.out⟩
  case round =>
    obtain ⟨cf, cnt, g, off, cap, q, d, rfl, HI⟩ := hrel
    clear HBM HBI HU
    rcases q with _ | ⟨a, q⟩
    · exact absurd (HI.out.2.2.2.not_dry HG.out.bnd HC.out hst hen HSE.out) id
    · have hca := HI.out.2.2.1.que.cell (j := 0) (v := a) rfl
      rw [Nat.add_zero] at hca
      have hql := HI.out.2.2.2.q_len
      rw [List.length_cons] at hql
      obtain ⟨ql, hqe⟩ : ∃ ql, ql = q.length := ⟨_, rfl⟩
      rw [← hqe] at hql
      rw [List.length_cons, ← hqe]
      have HQ : Hid _ := hqe
      clear hqe
      by_cases hae : a = en
      · subst hae
        have HDI : Hid _ := HI.out.2.2.2.dist HG.out.bnd HC.out hst
        have HBM : Hid _ := HI.out.2.2.1
        have HBI : Hid _ := HI.out.2.2.2
        obtain ⟨ue, hue⟩ := HI.out.2.2.2.qseen a (by simp)
        have HUE : Hid _ := hue
        have hwsz := HI.out.2.2.1.below.size
        have hown := World.ownsRow_lit (base := wr.heap.size) (e := 3) (size := 1) wr #[.int .i64 (a : Int)] 1 (Nat.le_refl _) (by decide) rfl
        have HOW : Hid _ := hown
        have HBL : Hid (∀ ob, Below wr.heap.size wr (wr.alloc ob)) := fun ob => (Below.refl _ _).alloc (Nat.le_refl _) ob
        have hsz1 : ∀ ob : Obj, (wr.alloc ob).heap.size = wr.heap.size + 1 := fun ob => sz_alloc _ _
        obtain ⟨i3, hi3, hz30, hz31, hz32⟩ := info_parts Try.info3
        have HDE : Hid _ := show d a ≤ 65536 from by
          have := (HI.out.2.2.2.nodes_le ue HUE.out)
          omega
        clear hown hue
        go_wp2_with fail
        clear hca hql
        obtain ⟨W0, rfl⟩ : ∃ W0, W0 = wr := ⟨_, rfl⟩
        go_loopg [16, 17] (d a) (fun gk s16 s17 wr => ∃ (g1 cap1 x len : Nat) (R : List Nat), s16 = .slice (some ⟨g1, 0, none⟩) len cap1 ∧ s17 = .int .i64 (x : Int) ∧ len ≤ 65537 ∧ Hid (len = R.length ∧ Back deps a x R ∧ len + d x = d a + 1 ∧ (∃ u, cf x = some u) ∧ d x ≤ gk) ∧ Hid (Below W0.heap.size W0 wr) ∧ Hid (wr.ownsRow W0.heap.size 3 1 (.slice (some ⟨g1, 0, none⟩) len cap1) len (ints R)))
        case atStart => exact ⟨W0.heap.size, 1, a, 1, [a], rfl, rfl, by omega, ⟨rfl, back_start a, by omega, ⟨ue, HUE.out⟩, Nat.le_refl _⟩, HBL.out _, HOW.out⟩
        case round =>
          obtain ⟨g1, cap1, x, len, R, rfl, rfl, hl1, HB, HBe, HO⟩ := hrel
          obtain ⟨e1, e2, e3, ⟨u, hu⟩, e5⟩ := HB.out
          obtain ⟨s1, s2, s3⟩ := HBI.out.seen x u hu
          have hszs := HBe.out.size
          by_cases hxs : x = st
          · subst hxs
            have hd0 := HBI.out.st0.2
            have hlen : len = d a + 1 := by omega
            have HP : Hid (PathIs deps x a R.reverse) := e2.path (by rw [← e1, hlen]; exact HDI.out) (by omega)
            have R23 := rev23 wr W0.heap.size g1 cap1 R (by rw [← e1]; exact HO.out) (by omega) (by omega)
            rw [← e1] at R23
            have HLE : Hid _ := e1
            clear e1 e2 e3 hu e5 s1 s2 s3 hlen hd0
            go_wp2_with (go_at_call 23; refine R23.mono ?_; rintro r w2 ⟨rfl, hrr⟩; have HRR : Hid _ := hrr; clear hrr)
            go_ret
            have hrr := HRR.out
            refine ⟨g1, cap1, R.reverse, by rw [List.length_reverse, ← HLE.out]; rfl, ?_, ?_, HP.out⟩
            · refine (HBM.out.below.trans (HBe.out.mono hwsz)).grown hrr.gr ?_ (fun k hk => ?_)
              · omega
              · cases hk
                have := (HO.out.lt g1 rfl).1
                omega
            · rw [List.length_reverse, ← HLE.out]
              exact owns_mono hrr.own hwsz
          · have hxi : (x : Int) ≠ (st : Int) := by omega
            obtain ⟨⟨v, hv⟩, k2, k3⟩ := s3.resolve_left hxs
            have hlk := (HBM.out.fresh HBe.out).look (x := x) (by omega) hu
            have HN : Hid (∀ j y, [Value.int .i64 (u : Int)][j]? = some y → (wr.alloc (.cells #[.int .i64 (u : Int)] 3)).cell? ((⟨wr.heap.size, 0, none⟩ : Addr).add j) = some y) :=
              World.news_of_block (cs := #[.int .i64 (u : Int)]) (t := 3) (fr := (0, 0)) (heap_alloc_new wr _)
            have H1C : Hid (∀ y ∈ [Value.int .i64 (u : Int)], y.oneCell' = true) := by show ∀ y ∈ _, _; simp [Value.oneCell']
            have hm1 : len + 1 ≤ maxLen := by unfold maxLen; omega
            have HM2 : Hid ((len + 1) * 8 ≤ 140737488355328) := by show _ ≤ _; omega
            have HWs : Hid (∀ (ob : Obj), (wr.alloc ob).heap.size = wr.heap.size + 1) := fun ob => sz_alloc wr ob
            have HB2 : Hid (∀ ob : Obj, W0.heap.size ≤ (wr.alloc ob).heap.size) := fun ob => by rw [sz_alloc]; omega
            have HO2 : Hid (∀ ob : Obj, (wr.alloc ob).ownsRow W0.heap.size 3 1 (.slice (some ⟨g1, 0, none⟩) len cap1) len (ints R)) := fun ob => HO.out.alloc ob
            have HS : Hid (Back deps a u (R ++ [u]) ∧ len + 1 + d u = d a + 1 ∧ d u < gk ∧ d x = d u + 1) := ⟨e2.step k2, by omega, by omega, k3⟩
            have HV : Hid _ := hv
            have HBg : Hid (∀ (ob : Obj) w2, (wr.alloc ob).grownBy w2 (some g1) → Below W0.heap.size W0 w2) := fun ob w2 hg => (HBe.out.alloc hszs ob).grown hg (by rw [sz_alloc]; omega) (fun k hk => by cases hk; exact (HO.out.lt g1 rfl).1)
            have hle : len ≤ 65536 := by have := HDE.out; omega
            have HLE : Hid _ := e1
            clear e1 e2 e3 hu e5 s1 s2 s3 hv k2 k3 hxs
            go_wp2_with (at_builtin; (refine wpList_append_lies _ rfl (.tmp 80) (.tmp 82) 25 rfl W0.heap.size 3 i3 _ 1 8 Try.underlying25 hi3 hz30 hz31 hz32 rfl (by omega) (.slice (some ⟨g1, 0, none⟩) len cap1) len (ints R) rfl (HO2.out _) ⟨wr.heap.size, 0, none⟩ 1 1 _ rfl rfl HN.out H1C.out (by omega) hm1 HM2.out (HB2.out _) (wr.heap.size + 1) (HWs.out _) ?_; intro ca cap w1 ho1 hg1 hat hlt; have HO1 : Hid _ := ho1; have HG1 : Hid _ := hg1; clear ho1 hg1 hat hlt))
            go_roundg (d u)
            case measure => exact HS.out.2.2.1
            case rel => exact ⟨ca, cap, u, len + 1, R ++ [u], rfl, rfl, by omega, ⟨by rw [List.length_append, ← HLE.out]; rfl, HS.out.1, HS.out.2.1, ⟨v, HV.out⟩, Nat.le_refl _⟩, HBg.out _ _ HG1.out, by rw [← ints_snoc]; exact HO1.out⟩
      · have hai : (a : Int) ≠ (en : Int) := by omega
        have hbe : ((a : Int) == (en : Int)) = false := by simpa using hai
        obtain ⟨ua, hua⟩ := HI.out.2.2.2.qseen a (by simp)
        have han : a < n := (HI.out.2.2.2.seen a ua hua).1
        have ha0 : (0 : Int) ≤ (a : Int) := by omega
        have ha1 : (a : Int) < (n : Int) := by omega
        obtain ⟨r, c, hr, hrk⟩ := (HG.out.below HI.out.2.2.1.below).row a han
        have hlen := HG.out.len a han
        have HB2 : Hid _ := HI.out.2.2.2.enter hae
        clear hua hae
        obtain ⟨dl, hdl⟩ : ∃ dl, dl = (deps a).length := ⟨_, rfl⟩
        rw [← hdl] at hr hlen
        have HDL : Hid _ := hdl
        have HRK : Hid (∀ i v : Nat, (deps a)[i]? = some v → ∃ R, r = some ⟨R, 0, none⟩ ∧ w.cell? ⟨R, i, none⟩ = some (.int .i64 (v : Int))) := by
          obtain ⟨r', c', e1, e2⟩ := HG.out.row a han
          have e3 := (HI.out.2.2.1.below.cell (p := ⟨D, a, none⟩) (World.block_lt_of_cell? _ _ e1)).trans e1
          rw [hr] at e3
          have e4 : r = r' := by injection e3 with e3; injection e3
          rw [e4]
          exact e2
        clear hdl hrk
        go_wp2_with fail
        clear hca hr
        obtain ⟨W0, rfl⟩ : ∃ W0, W0 = wr := ⟨_, rfl⟩
        go_loopg [10, 40] dl (fun gk' s10 s40 wr => ∃ (cf : Nat → Option Nat) (cnt g off cap : Nat) (q : List Nat) (d : Nat → Nat) (i : Nat), s10 = .slice (some ⟨g, off, none⟩) (q.length + 1) cap ∧ s40 = .int .i64 (i : Int) ∧ i ≤ dl ∧ dl - i ≤ gk' ∧ Hid (unseen n cf + (q.length + 1) ≤ gk ∧ cnt + unseen n cf = n ∧ BM w wr cf cnt g off cap (a :: q) ∧ BI2 deps n comp st en cf d a q i))
        case atStart => exact ⟨cf, cnt, g, off, cap, q, d, 0, by rw [← HQ.out], rfl, Nat.zero_le _, Nat.le_refl _, by have := HI.out.1; rw [List.length_cons] at this; exact this, HI.out.2.1, HI.out.2.2.1, HB2.out⟩
        case round =>
          obtain ⟨cf2, cnt2, g2, off2, cap2, q2, d2, i, rfl, rfl, hi, hgk2, HI2⟩ := hrel
          clear HI HQ HB2
          have hql2 := HI2.out.2.2.2.base.q_len
          rw [List.length_cons] at hql2
          by_cases hlt : i < dl
          · obtain ⟨b, hb⟩ : ∃ b, (deps a)[i]? = some b := ⟨_, List.getElem?_eq_getElem (by rw [← HDL.out]; exact hlt)⟩
            obtain ⟨R, hR, hcb⟩ := HRK.out i b hb
            have hbn : b < n := HG.out.bnd a han b (List.mem_of_getElem? hb)
            have hcb2 := (HI2.out.2.2.1.below.cell (p := ⟨R, i, none⟩) (World.block_lt_of_cell? _ _ hcb)).trans hcb
            subst hR
            have hCl : C < w.heap.size := (Array.getElem?_eq_some_iff.1 HCC.out).1
            have hCb := (HI2.out.2.2.1.below.block C hCl).trans HCC.out
            have cCb := cell_blk hCb (irow_get (f := comp) hbn)
            have cCs := cell_blk hCb (irow_get (f := comp) hst)
            obtain ⟨c0, hlk⟩ := HI2.out.2.2.1.lookOk0 (x := b) (by omega)
            have hb0 : (0 : Int) ≤ (b : Int) := by omega
            have hb1 : (b : Int) < (n : Int) := by omega
            have hs0 : (0 : Int) ≤ (st : Int) := by omega
            have hs1 : (st : Int) < (n : Int) := by omega
            have HB : Hid _ := hb
            clear hb hcb hCb
            cases hcf : cf2 b with
            | some u =>
              rw [hcf] at hlk
              have HCF : Hid _ := hcf
              clear hcf
              dsimp only [Option.isSome] at hlk
              go_upto_region 11 with fail
              go_quiet (fail)
              obtain ⟨q1, rfl⟩ : ∃ q, q = nq := ⟨_, rfl⟩
              go_wp2_with fail
              go_roundg (dl - (i + 1))
              case measure => omega
              case rel => exact ⟨cf2, cnt2, g2, off2, cap2, q2, d2, i + 1, rfl, by go_num, by omega, Nat.le_refl _, HI2.out.1, HI2.out.2.1, HI2.out.2.2.1.drewN q1, HI2.out.2.2.2.skip HB.out (.inl ⟨u, HCF.out⟩)⟩
            | none =>
              rw [hcf] at hlk
              have HCF : Hid _ := hcf
              clear hcf
              dsimp only [Option.isSome] at hlk
              by_cases hcc : comp b = comp st
              · rw [hcc] at cCb
                have HCE : Hid _ := hcc
                clear hcc
                go_upto_region 11 with fail
                go_quiet (fail)
                obtain ⟨q1, rfl⟩ : ∃ q, q = nq := ⟨_, rfl⟩
                obtain ⟨w2, hrun2, hB2⟩ := (HI2.out.2.2.1.drewN q1).put (a := b) (b := a) (by omega) (by omega) (by have := HI2.out.2.1; omega)
                obtain ⟨g3, off3, cap3, w3, hrun3, hB3⟩ := hB2.app b (by rw [List.length_cons]; omega)
                rw [List.length_cons] at hrun3
                have HB3 : Hid _ := hB3
                have HR3 : Hid _ := hrun3
                clear hB2 hB3 hlk hrun3
                go_wp2_with (at_builtin; (refine wpList_append_eq _ rfl (.tmp 66) (.tmp 68) 25 rfl rfl rfl HR3.out ?_))
                go_roundg (dl - (i + 1))
                case measure => omega
                case rel =>
                  refine ⟨setC cf2 b a, cnt2 + 1, g3, off3, cap3, q2 ++ [b], _, i + 1, by rw [List.length_append]; rfl, by go_num, by omega, Nat.le_refl _, ?_, ?_, HB3.out, HI2.out.2.2.2.add HG.out.bnd HB.out HCF.out HCE.out⟩
                  · have h1 := HI2.out.1
                    have h2 := unseen_set (n := n) (b := a) hbn HCF.out
                    rw [List.length_append, show [b].length = 1 from rfl]
                    omega
                  · have h1 := HI2.out.2.1
                    have h2 := unseen_set (n := n) (b := a) hbn HCF.out
                    omega
              · have hne : ((comp b : Nat) : Int) ≠ ((comp st : Nat) : Int) := by omega
                have HCE : Hid _ := hcc
                clear hcc
                go_upto_region 11 with fail
                go_quiet (fail)
                obtain ⟨q1, rfl⟩ : ∃ q, q = nq := ⟨_, rfl⟩
                go_wp2_with fail
                go_roundg (dl - (i + 1))
                case measure => omega
                case rel => exact ⟨cf2, cnt2, g2, off2, cap2, q2, d2, i + 1, rfl, by go_num, by omega, Nat.le_refl _, HI2.out.1, HI2.out.2.1, HI2.out.2.2.1.drewN q1, HI2.out.2.2.2.skip HB.out (.inr HCE.out)⟩
          · have hle := HI2.out.2.2.1.que.le
            rw [List.length_cons] at hle
            have hp := HI2.out.2.2.1.pop
            have HL : Hid _ := HI2.out.2.2.2.leave (by rw [← HDL.out]; omega)
            by_cases hc1 : cap2 = 1
            · subst hc1
              have HP : Hid _ := hp.1 rfl
              clear hp
              go_wp2_with fail
              go_roundg (unseen n cf2 + q2.length)
              case measure => have := HI2.out.1; omega
              case rel => exact ⟨cf2, cnt2, g2, off2, 0, q2, d2, by rw [show q2.length = 0 from by omega], Nat.le_refl _, HI2.out.2.1, HP.out, HL.out⟩
            · have HP : Hid _ := hp.2 hc1
              clear hp
              go_wp2_with fail
              go_roundg (unseen n cf2 + q2.length)
              case measure => have := HI2.out.1; omega
              case rel => exact ⟨cf2, cnt2, g2, off2 + 1, cap2 - 1, q2, d2, rfl, Nat.le_refl _, HI2.out.2.1, HP.out, HL.out⟩
end Go.Proofs.Qxb6600314a
