/-
  WALK for seat b6600280a: (*chunkList).splice (45) with no chunks to put in: it writes the list's own struct and its array alone.
-/
import Derived.Test.Qxb6600280aRoom
namespace Go.Proofs.Qxb6600280a
open Go.RowKit
set_option linter.unusedVariables false
attribute [local go_sem ↓] Go.wp_at_zero Go.wp_at_succ

theorem copy5_none (W : World) (dp sp : Option Addr) (dLen dCap sCap : Nat) :
    (Builtin.copy_ #[55, 55] 3 #[.slice dp dLen dCap, .slice sp 0 sCap]).run Try.prog W = .ok (.int .i64 0) W := by
  obtain ⟨i0, hi0, hz0, hz1, hz2⟩ := info_parts Try.info59
  have hl : ∀ (x : Addr), (loadCells x 0).run Try.prog W = .ok #[] W := fun x => by simpa using run_loadCells_list (P := Try.prog) W x [] (by simp)
  cases dp <;> cases sp <;> simp [Builtin.copy_, run_underlying Try.underlying55, Builtin.lenOf, Builtin.firstCells, sizeOf, typeInfo, hi0, storeCells, goInt, hl]

/-- The array of chunks: one row of whatever cells. -/
def Arr (w : World) (ca n : Nat) : Prop := ∃ cur : Array Value, w.heap[ca]? = some (.cells cur 59 (0, 0)) ∧ cur.size = n * 5
/-- The first m cells of the array are single cells. -/
def Ones (w : World) (ca m : Nat) : Prop := ∀ i v, i < m → w.cell? ⟨ca, i, none⟩ = some v → v.oneCell' = true

theorem copy5_runs (w : World) (ca cap doff soff m dLen dCap sLen sCap : Nat) (h : Arr w ca cap) (ho : Ones w ca ((soff + m) * 5)) (hm : m = Nat.min sLen dLen) (hd : doff + m ≤ cap) (hs : soff + m ≤ cap) :
    ∃ F : Nat → World, (∀ k, (Builtin.copy_ #[55, 55] 3 #[.slice (some ⟨ca, doff * 5, none⟩) dLen dCap, .slice (some ⟨ca, soff * 5, none⟩) sLen sCap]).run Try.prog (w.drewN k) = .ok (.int .i64 m) (F k)) ∧
      (∀ k, Arr (F k) ca cap) ∧ ∀ k, w.grownBy (F k) (some ca) := by
  obtain ⟨i0, hi0, hz0, hz1, hz2⟩ := info_parts Try.info59
  obtain ⟨cur, hc, hsz⟩ := h
  have hcs : ((cur.toList.drop (soff * 5)).take (m * 5)).length = m * 5 := by simp [hsz]; omega
  have hsrc : ∀ k j v, ((cur.toList.drop (soff * 5)).take (m * 5))[j]? = some v → (w.drewN k).cell? ((⟨ca, soff * 5, none⟩ : Addr).add j) = some v := fun k j v hv => by
    rw [Addr.add_lit]
    have hj : j < m * 5 := by
      have := (List.getElem?_eq_some_iff.1 hv).1
      omega
    rw [List.getElem?_take, if_pos hj, List.getElem?_drop] at hv
    show w.cell? _ = _
    rw [cell_of_row w ca (soff * 5 + j) cur 59 (0, 0) hc]
    simpa using hv
  have h1c : ∀ v ∈ (cur.toList.drop (soff * 5)).take (m * 5), v.oneCell' = true := fun v hv => by
    obtain ⟨j, hj⟩ := List.mem_iff_getElem?.1 hv
    have hjm : j < m * 5 := by
      have := (List.getElem?_eq_some_iff.1 hj).1
      omega
    have := hsrc 0 j v hj
    rw [Addr.add_lit] at this
    exact ho (soff * 5 + j) v (by omega) this
  generalize hcsd : (cur.toList.drop (soff * 5)).take (m * 5) = cs at hcs hsrc h1c
  refine ⟨fun k => (w.drewN k).setRow ca (cur.toList.take (doff * 5) ++ cs ++ cur.toList.drop (doff * 5 + cs.length)).toArray, fun k => ?_, fun k => ?_, fun k => ?_⟩
  · have hf := run_firstCells_some (P := Try.prog) (w.drewN k) 5 m ⟨ca, soff * 5, none⟩ sLen sCap cs hcs (hsrc k)
    have hst := run_storeCells_at Try.prog ca (doff * 5) 59 cs 0 cur (w.drewN k) hc (by simp only [Nat.add_zero, hcs, hsz]; omega) h1c
    simp only [Nat.add_zero] at hst
    simp [Builtin.copy_, run_underlying Try.underlying55, Builtin.lenOf, sizeOf, typeInfo, hi0, hz1, ← hm, hf, hst, goInt]
  · refine ⟨_, setRow_heap (w.drewN k) ca cur _ 59 (0, 0) hc, ?_⟩
    simp [hcs, hsz]; omega
  · exact ⟨rfl, rfl, rfl, by simp [World.setRow, World.drewN], fun j _ hne => setRow_other (w.drewN k) ca j _ (fun e => hne (by rw [e]))⟩

theorem zero59 (w : World) : (zeroValue 59).run Try.prog w = .ok (.agg #[.slice none 0 0, .int .i64 0, .int .i64 0, .int .i64 0, .bool false]) w := by kernel_rfl

theorem clear5_runs (w : World) (ca cap off m sCap : Nat) (h : Arr w ca cap) (hm : 0 < m) (hs : off + m ≤ cap) (ty : TypeId) :
    ∃ w', (Builtin.clear_ #[55] ty #[.slice (some ⟨ca, off * 5, none⟩) m sCap]).run Try.prog w = .ok (.tuple #[]) w' ∧ Arr w' ca cap ∧ w.grownBy w' (some ca) := by
  obtain ⟨cur, hc, hsz⟩ := h
  obtain ⟨zs, hzs⟩ : ∃ zs, zs = (Builtin.zeroCells #[.slice none 0 0, .int .i64 0, .int .i64 0, .int .i64 0, .bool false] m).toList := ⟨_, rfl⟩
  have hlen : zs.length = m * 5 := by rw [hzs]; simp [Builtin.zeroCells]
  have hz1 : ∀ v ∈ zs, v.oneCell' = true := by
    intro v hv
    rw [hzs] at hv
    simp only [Builtin.zeroCells, Array.toList_map, List.mem_map] at hv
    obtain ⟨i, _, rfl⟩ := hv
    have : i % 5 < 5 := Nat.mod_lt _ (by omega)
    show (#[Value.slice none 0 0, .int .i64 0, .int .i64 0, .int .i64 0, .bool false][i % 5]!).oneCell' = true
    rcases (show i % 5 = 0 ∨ i % 5 = 1 ∨ i % 5 = 2 ∨ i % 5 = 3 ∨ i % 5 = 4 from by omega) with e | e | e | e | e <;> rw [e] <;> rfl
  have hst := run_storeCells_at Try.prog ca (off * 5) 59 zs 0 cur w hc (by simp only [Nat.add_zero, hlen, hsz]; omega) hz1
  simp only [Nat.add_zero] at hst
  refine ⟨_, ?_, ⟨_, setRow_heap w ca cur (cur.toList.take (off * 5) ++ zs ++ cur.toList.drop (off * 5 + zs.length)).toArray 59 (0, 0) hc, ?_⟩, ⟨rfl, rfl, rfl, by simp [World.setRow], fun j _ hne => setRow_other w ca j _ (fun e => hne (by rw [e]))⟩⟩
  · obtain ⟨m', rfl⟩ : ∃ m', m = m' + 1 := ⟨m - 1, by omega⟩
    simp [Builtin.clear_, run_underlying Try.underlying55, Value.cells, ← hzs, hst]
  · simp [hlen, hsz]; omega

/-- Nothing but the blocks p and q has turned. -/
structure Only2 (p q : Nat) (w w' : World) : Prop where
  os : w'.os = w.os
  tape : w'.tape = w.tape
  output : w'.output = w.output
  size : w.heap.size ≤ w'.heap.size
  block : ∀ k, k < w.heap.size → k ≠ p → k ≠ q → w'.heap[k]? = w.heap[k]?

theorem Only2.set {p q : Nat} {w w' : World} (h : Only2 p q w w') {i : Nat} {v : Value} : Only2 p q w (w'.setCell ⟨p, i, none⟩ v) :=
  ⟨h.os, h.tape, h.output, by simpa [World.setCell] using h.size, fun k hk hp hq => (Below.heap_setCell _ _ _ _ hp).trans (h.block k hk hp hq)⟩

set_option maxRecDepth 100000 in
set_option maxHeartbeats 1000000 in
theorem splice45 (w : World) (pl ca n cap f l : Nat) (c0 : w.cell? ⟨pl, 0, none⟩ = some (.slice (some ⟨ca, 0, none⟩) n cap)) (f0 : w.frozen? ⟨pl, 0, none⟩ = false) (hA : Arr w ca cap) (hon : Ones w ca (n * 5)) (hpc : pl ≠ ca) (hn : n ≤ cap) (hnn : n ≤ 1048576) (hf : f ≤ l) (hl : l ≤ n) (hf0 : 0 < f) :
    Calls Try.prog 45 #[.pointer (some ⟨pl, 0, none⟩), .int .i64 f, .int .i64 l, .slice none 0 0] w fun r w' => r = .returned (.tuple #[]) ∧ Only2 pl ca w w' := by
  have lpl : pl < w.heap.size := World.block_lt_of_cell? _ _ c0
  have hnone := copy5_none
  have HO : Hid (Ones w ca (n * 5)) := hon
  clear hon
  obtain ⟨n', hn'⟩ : ∃ n', n' = n - (l - f) := ⟨_, rfl⟩
  have hni : (n : Int) - ((l : Int) - (f : Int)) = (n' : Int) := by omega
  have hb1 : f ≤ n' := by omega
  have hb2 : n' ≤ n := by omega
  have HB3 : Hid (n' - f = n - l) := by show _ = _; omega
  have HN' : Hid (n' = n - (l - f)) := hn'
  clear hn'
  have i1 : (0 : Int) ≤ (f : Int) := by omega
  have i2 : (f : Int) ≤ (n' : Int) := by omega
  have i3 : (n' : Int) ≤ (cap : Int) := by omega
  have i4 : (0 : Int) ≤ (l : Int) := by omega
  have i5 : (l : Int) ≤ (n : Int) := by omega
  have i6 : (n : Int) ≤ (cap : Int) := by omega
  have hwf : IntKind.i64.wrap (f : Int) = (f : Int) := by rw [IntKind.wrap_i64]; omega
  go_enter Try.func45, Try.ntmps45
  go_upto_region 4 with fail
  go_cut [54] (fun _ wx => Arr wx ca cap ∧ w.grownBy wx (some ca))
  case first =>
    by_cases hln : l < n
    · obtain ⟨F, hF1, hF2, hF3⟩ := copy5_runs w ca cap f l (n - l) (n' - f) (cap - f) (n - l) (cap - l) hA (fun j v hj hv => HO.out j v (by omega) hv) (by rw [HB3.out]; simp) (by omega) (by omega)
      have hFd : (Builtin.copy_ #[55, 55] 3 #[.slice (some ⟨ca, f * 5, none⟩) (n' - f) (cap - f), .slice (some ⟨ca, l * 5, none⟩) (n - l) (cap - l)]).run Try.prog w.drew = .ok (.int .i64 ((n - l : Nat) : Int)) (F 1) := hF1 1
      clear hF1
      have e1 : ¬ cap = f := by omega
      have e2 : ¬ cap = l := by omega
      have hFc : ∀ k, (F k).cell? ⟨pl, 0, none⟩ = some (.slice (some ⟨ca, 0, none⟩) n cap) := fun k => ((hF3 k).cell_far _ lpl (by simpa using hpc)).trans c0
      have HF2 : Hid _ := hF2
      have HF3 : Hid _ := hF3
      clear hF2 hF3 hnone hA
      go_region_held3 (fun w' => w'.cell? ⟨pl, 0, none⟩ = some (.slice (some ⟨ca, 0, none⟩) n cap)) (go_keep) (fail)
      all_goals
        go_wp2_with fail
        go_meet
        exact ⟨HF2.out _, HF3.out _⟩
    · obtain rfl : n = l := by omega
      have hfn' : f = n' := by omega
      by_cases e2 : cap = n
      · subst e2
        by_cases e1 : cap = f
        · subst e1
          obtain rfl : cap = n' := hfn'
          have HA : Hid _ := hA
          clear hA
          go_region_held3 (fun w' => w'.cell? ⟨pl, 0, none⟩ = some (.slice (some ⟨ca, 0, none⟩) cap cap)) (go_keep) (fail)
          all_goals
            go_wp2_with fail
            go_meet
            exact ⟨HA.out, ⟨rfl, rfl, rfl, Nat.le_refl _, fun _ _ _ => rfl⟩⟩
        · obtain rfl : f = n' := hfn'
          have HA : Hid _ := hA
          clear hA
          go_region_held3 (fun w' => w'.cell? ⟨pl, 0, none⟩ = some (.slice (some ⟨ca, 0, none⟩) cap cap)) (go_keep) (fail)
          all_goals
            go_wp2_with fail
            go_meet
            exact ⟨HA.out, ⟨rfl, rfl, rfl, Nat.le_refl _, fun _ _ _ => rfl⟩⟩
      · have e1 : ¬ cap = f := by omega
        obtain rfl : f = n' := hfn'
        have HA : Hid _ := hA
        clear hA
        go_region_held3 (fun w' => w'.cell? ⟨pl, 0, none⟩ = some (.slice (some ⟨ca, 0, none⟩) n cap)) (go_keep) (fail)
        all_goals
          go_wp2_with fail
          go_meet
          exact ⟨HA.out, ⟨rfl, rfl, rfl, Nat.le_refl _, fun _ _ _ => rfl⟩⟩
  case rest =>
    obtain ⟨hA', hg⟩ := hcut
    have c0' := (hg.cell_far ⟨pl, 0, none⟩ lpl (by simpa using hpc)).trans c0
    have f0' := (hg.frozen_far ⟨pl, 0, none⟩ lpl (by simpa using hpc)).trans f0
    have lplc : pl < wc.heap.size := World.block_lt_of_cell? _ _ c0'
    have HG : Hid (w.grownBy wc (some ca)) := hg
    clear hg
    by_cases hlt : n' < n
    · obtain ⟨W', hrun, hA2, hg2⟩ := clear5_runs wc ca cap n' (n - n') (cap - n') hA' (by omega) (by omega) 0
      have e1 : ¬ cap = f := by omega
      have e2 : ¬ cap = n' := by omega
      have c0'' := (hg2.cell_far ⟨pl, 0, none⟩ lplc (by simpa using hpc)).trans c0'
      have f0'' := (hg2.frozen_far ⟨pl, 0, none⟩ lplc (by simpa using hpc)).trans f0'
      have HG2 : Hid (wc.grownBy W' (some ca)) := hg2
      have H12 : Hid (Only2 pl ca w W') := ⟨hg2.os.trans HG.out.os, hg2.tape.trans HG.out.tape, hg2.output.trans HG.out.output, Nat.le_trans HG.out.size hg2.size, fun k hk _ hkc => (hg2.block k (Nat.lt_of_lt_of_le hk HG.out.size) (by simpa using hkc)).trans (HG.out.block k hk (by simpa using hkc))⟩
      clear hg2 hA2 hA' c0 f0 hA
      go_wp2
      go_end0
      exact ⟨rfl, H12.out.set⟩
    · have H12 : Hid (Only2 pl ca w wc) := ⟨HG.out.os, HG.out.tape, HG.out.output, HG.out.size, fun k hk _ hkc => HG.out.block k hk (by simpa using hkc)⟩
      have hle : ¬ (n' : Int) < (n : Int) := by omega
      clear hA' c0 f0 hA
      by_cases e1 : cap = f
      · subst e1
        go_wp2
        all_goals (go_end0; exact ⟨rfl, H12.out.set⟩)
      · go_wp2
        all_goals (go_end0; exact ⟨rfl, H12.out.set⟩)
end Go.Proofs.Qxb6600280a
