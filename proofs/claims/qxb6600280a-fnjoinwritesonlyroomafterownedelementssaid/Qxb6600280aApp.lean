/-
  WALKS for seat b6600280a: ZZJoin (24), ZZNewChunkList (37), ZZAppendChunk (38).
-/
import Derived.Test.Qxb6600280aJoin
import Derived.OwnWalk
namespace Go.Proofs.Qxb6600280a
open Go.RowKit
set_option linter.unusedVariables false
attribute [local go_sem ↓] Go.wp_at_zero Go.wp_at_succ

theorem join24 (w : World) (pl ca n cap f l : Nat) (R0 : List Rec) (bc : Nat → List Int) (rs : Nat → Rec) (hf : Fixed w pl ca n cap R0) (hJ : JInv w w pl ca n cap R0 bc rs)
    (c0 : w.cell? ⟨pl, 0, none⟩ = some (.slice (some ⟨ca, 0, none⟩) n cap)) (f0 : w.frozen? ⟨pl, 0, none⟩ = false) (hfl : f ≤ l) (hfn : f < n) (hl : l ≤ 1073741824) :
    Calls Try.prog 24 #[.pointer (some ⟨pl, 0, none⟩), .int .i64 f, .int .i64 l] w fun r w' => r = .returned (.tuple #[]) ∧ JPost w w' pl ca R0 bc := by
  have hj := join39 w pl ca n cap f l R0 bc rs hf hJ c0 f0 hfl hfn hl
  clear hJ hf
  go_enter Try.func24, Try.ntmps24
  go_wp2_with (go_at_call 39; refine hj.mono ?_; rintro r w' ⟨rfl, hp⟩)
  go_end0
  exact ⟨rfl, hp⟩

theorem new37 (w : World) : Calls Try.prog 37 #[] w fun r w' => r = .returned (.pointer (some ⟨w.heap.size, 0, none⟩)) ∧ w' = w.alloc (.cells #[.slice none 0 0, .int .i64 0, .int .i64 0] 57) := by
  go_enter Try.func37, Try.ntmps37
  go_wp2
  go_ret
  exact ⟨rfl, rfl⟩

theorem sz_alloc (w : World) (o : Obj) : (w.alloc o).heap.size = w.heap.size + 1 := by
  show (w.heap.push _).size = _
  simp

theorem cells3 {W : World} {pl : Nat} {a b c : Value} {t : TypeId} (h : W.heap[pl]? = some (.cells #[a, b, c] t (0, 0))) : W.cell? ⟨pl, 0, none⟩ = some a ∧ W.cell? ⟨pl, 1, none⟩ = some b ∧ W.cell? ⟨pl, 2, none⟩ = some c ∧ ∀ q, W.frozen? ⟨pl, q, none⟩ = false :=
  ⟨by simp [World.cell?, h], by simp [World.cell?, h], by simp [World.cell?, h], fun q => by simp [World.frozen?, h]⟩

/-- What ZZAppendChunk leaves. -/
structure App (w w' : World) (pl base : Nat) (v : Value) (n : Nat) (xs : List Value) : Prop where
  row : ∃ ca cap c1 c2, w'.heap[pl]? = some (.cells #[.slice (some ⟨ca, 0, none⟩) (n + 1) cap, .int .i64 c1, .int .i64 c2] 57 (0, 0)) ∧ w'.ownsRow base 59 5 (.slice (some ⟨ca, 0, none⟩) (n + 1) cap) (n + 1) xs ∧ (v.ownBlock = some ca ∨ w.heap.size ≤ ca)
  os : w'.os = w.os
  tape : w'.tape = w.tape
  output : w'.output = w.output
  size : w.heap.size ≤ w'.heap.size
  block : ∀ k, k < w.heap.size → k ≠ pl → some k ≠ v.ownBlock → w'.heap[k]? = w.heap[k]?

set_option maxRecDepth 100000 in
set_option maxHeartbeats 1000000 in
theorem app38 (w : World) (pl base n : Nat) (v : Value) (xs : List Value) (c1 c2 : Int) (hp : w.heap[pl]? = some (.cells #[v, .int .i64 c1, .int .i64 c2] 57 (0, 0))) (ho : w.ownsRow base 59 5 v n xs) (hpv : v.ownBlock ≠ some pl) (hb : base ≤ w.heap.size) (hn : n ≤ 4096)
    (g L s e : Nat) (c : Int) (o : Bool) :
    Calls Try.prog 38 #[.pointer (some ⟨pl, 0, none⟩), .slice (some ⟨g, 0, none⟩) L L, .int .i64 s, .int .i64 e, .int .i64 c, .bool o] w fun r w' => r = .returned (.tuple #[]) ∧ App w w' pl base v n (xs ++ [.slice (some ⟨g, 0, none⟩) L L, .int .i64 s, .int .i64 e, .int .i64 c, .bool o]) := by
  obtain ⟨i0, hi0, hz0, hz1, hz2⟩ := info_parts Try.info59
  have p0 : w.cell? ⟨pl, 0, none⟩ = some v := by simp [World.cell?, hp]
  have p1 : w.cell? ⟨pl, 1, none⟩ = some (.int .i64 c1) := by simp [World.cell?, hp]
  have p2 : w.cell? ⟨pl, 2, none⟩ = some (.int .i64 c2) := by simp [World.cell?, hp]
  have pf : ∀ q, w.frozen? ⟨pl, q, none⟩ = false := fun q => by simp [World.frozen?, hp]
  have lpl : pl < w.heap.size := World.block_lt_of_cell? _ _ p0
  have HP : Hid _ := hp
  clear hp
  obtain ⟨CS, hCS⟩ : ∃ CS : List Value, CS = [.slice (some ⟨g, 0, none⟩) L L, .int .i64 s, .int .i64 e, .int .i64 c, .bool o] := ⟨_, rfl⟩
  have HN : Hid (∀ j u, [Value.slice (some ⟨g, 0, none⟩) L L, .int .i64 s, .int .i64 e, .int .i64 c, .bool o][j]? = some u → (w.alloc (.cells #[.slice (some ⟨g, 0, none⟩) L L, .int .i64 s, .int .i64 e, .int .i64 c, .bool o] 59)).cell? ((⟨w.heap.size, 0, none⟩ : Addr).add j) = some u) :=
    World.news_of_block (cs := #[.slice (some ⟨g, 0, none⟩) L L, .int .i64 s, .int .i64 e, .int .i64 c, .bool o]) (t := 59) (fr := (0, 0)) (heap_alloc_new w _)
  have h1c : ∀ u ∈ [Value.slice (some ⟨g, 0, none⟩) L L, .int .i64 s, .int .i64 e, .int .i64 c, .bool o], u.oneCell' = true := by simp [Value.oneCell']
  have H1C : Hid _ := h1c
  have hb2 : ∀ ob : Obj, base ≤ (w.alloc ob).heap.size := fun ob => by rw [sz_alloc]; omega
  have HB2 : Hid (∀ ob : Obj, base ≤ (w.alloc ob).heap.size) := hb2
  have HPa : Hid (∀ ob : Obj, (w.alloc ob).heap[pl]? = some (.cells #[v, .int .i64 c1, .int .i64 c2] 57 (0, 0))) := fun ob => (Below.heap_alloc _ _ _ lpl).trans HP.out
  have HL2 : Hid (∀ ob : Obj, pl < (w.alloc ob).heap.size) := fun ob => by rw [sz_alloc]; omega
  have HO : Hid (∀ ob : Obj, (w.alloc ob).ownsRow base 59 5 v n xs) := fun ob => ho.alloc ob
  have HNe : Hid (some pl ≠ v.ownBlock) := fun h => hpv h.symm
  have hm1 : n + 1 ≤ maxLen := by unfold maxLen; omega
  have HM2 : Hid ((n + 1) * 56 ≤ 140737488355328) := by show _ ≤ _; omega
  have HAt : Hid (∀ ca, v.ownBlock = some ca → ca ≠ pl) := fun ca h e => hpv (by rw [h, e])
  have HSz : Hid (∀ (ob : Obj) (W : World) r, (w.alloc ob).grownBy W r → w.heap.size ≤ W.heap.size ∧ W.os = w.os ∧ W.tape = w.tape ∧ W.output = w.output ∧ ∀ k, k < w.heap.size → some k ≠ r → W.heap[k]? = w.heap[k]?) := fun ob W r hg => by
    refine ⟨?_, hg.os, hg.tape, hg.output, fun k hk hne => ?_⟩
    · have := hg.size; rw [sz_alloc] at this; omega
    · exact (hg.block k (by rw [sz_alloc]; omega) hne).trans (Below.heap_alloc _ _ _ hk)
  have HWs : Hid (∀ (ob : Obj), (w.alloc ob).heap.size = w.heap.size + 1) := fun ob => sz_alloc w ob
  clear h1c hb2 ho hpv hCS CS
  go_enter Try.func38, Try.ntmps38
  go_wp2_with (at_builtin; (refine wpList_append_lies _ rfl (.tmp 16) (.tmp 23) 55 rfl base 59 i0 _ 5 56 Try.underlying55 hi0 hz0 hz1 hz2 rfl (by omega) v n xs rfl (HO.out _) ⟨w.heap.size, 0, none⟩ 1 1 _ rfl rfl HN.out H1C.out (by omega) hm1 HM2.out (HB2.out _) (w.heap.size + 1) (HWs.out _) ?_; intro ca cap w1 ho1 hg1 hat hlt; have hq := (hg1.block pl (HL2.out _) HNe.out).trans (HPa.out _); obtain ⟨q0, q1, q2, qf⟩ := cells3 hq; have HO1 : Hid _ := ho1; have HG1 : Hid _ := hg1; have HQ : Hid _ := hq; have HA : Hid _ := hat; clear ho1 hg1 hq hat))
  go_end0
  have hca : ca ≠ pl := by
    rcases HA.out with h | h
    · exact HAt.out ca h
    · omega
  have hg := grown_set (grown_set (grown_set (World.grownBy.refl w1 (some pl)) 0 (.slice (some ⟨ca, 0, none⟩) (n + 1) cap)) 1 (.int .i64 (wrap64 (c1 + c)))) 2 (.int .i64 (wrap64 (c2 + wrap64 ((e : Int) - (s : Int)))))
  obtain ⟨z1, z2, z3, z4, z5⟩ := HSz.out _ _ _ HG1.out
  refine ⟨rfl, ⟨ca, cap, _, _, (heap_setCell_same (heap_setCell_same (heap_setCell_same HQ.out _) _) _).trans (by simp; exact ⟨rfl, rfl⟩), World.ownsRow.kept HO1.out hg (.inr (by simpa [Value.ownBlock] using hca)), ?_⟩, hg.os.trans z2, hg.tape.trans z3, hg.output.trans z4, Nat.le_trans z1 hg.size, fun k hk h1 h2 => (hg.block k (Nat.lt_of_lt_of_le hk z1) (by simpa using h1)).trans (z5 k hk h2)⟩
  rcases HA.out with h | h
  · exact .inl h
  · exact .inr (by omega)
end Go.Proofs.Qxb6600280a
