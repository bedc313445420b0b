/-
  WALK for seat b6600314a: the closure meet (22).
-/
import Derived.Test.Qxb6600314aMoves
import Derived.KernelRfl
namespace Go.Proofs.Qxb6600314a
open Go.RowKit
set_option linter.unusedVariables false

theorem Try.info3 : (Try.prog.info? 3).map (fun i => (i.zero, i.size, i.bytes)) = some (some (.int .i64 0), 1, 8) := by kernel_rfl
theorem Try.info38 : (Try.prog.info? 38).map (fun i => (i.zero, i.size, i.bytes)) = some (some (.agg #[.int .i64 0, .int .i64 0]), 2, 16) := by kernel_rfl
theorem sz_alloc (w : World) (o : Obj) : (w.alloc o).heap.size = w.heap.size + 1 := by
  show (w.heap.push _).size = _
  simp
theorem ints_snoc (S : List Nat) (a : Nat) : ints S ++ [.int .i64 (a : Int)] = ints (S ++ [a]) := by simp [ints]
theorem calls_snoc (C : List (Nat × Nat)) (a b : Nat) : calls C ++ [.int .i64 (a : Int), .int .i64 (b : Int)] = calls (C ++ [(a, b)]) := by simp [calls]

/-- A cell of one of the ten blocks behind growth of the rows. -/
theorem Mem.grown {w wr : World} {x : Fx} {S : List Nat} {C : List (Nat × Nat)} (h : Mem w wr x S C) {r : Option Nat} {w' : World} (hg : wr.grownBy w' r) (hr : r = x.v1.ownBlock ∨ r = x.v2.ownBlock) {i : Nat} (hi : i < 10) : w'.heap[w.heap.size + i]? = some (x.obj w.heap.size i) := by
  have hs := h.szs
  refine (hg.block _ (by omega) (fun e => ?_)).trans (h.blk i hi)
  rcases hr with rfl | rfl
  · have := (h.b1 e.symm).1; omega
  · have := (h.b2 e.symm).1; omega

set_option maxRecDepth 100000 in
set_option maxHeartbeats 1000000 in
theorem meet22 (w wr : World) (x : Fx) (S : List Nat) (C : List (Nat × Nat)) (a : Nat) (h : Mem w wr x S C) (ha : a < x.n) (hn : x.n ≤ 65536) (hm : x.met ≤ 65536) (hS : S.length ≤ 65536) (hC : C.length ≤ 65536) :
    Calls Try.prog 22 #[.int .i64 (a : Int), .pointer (some ⟨w.heap.size + 8, 0, none⟩), .pointer (some ⟨w.heap.size + 1, 0, none⟩), .pointer (some ⟨w.heap.size + 3, 0, none⟩), .pointer (some ⟨w.heap.size + 7, 0, none⟩), .pointer (some ⟨w.heap.size + 5, 0, none⟩), .pointer (some ⟨w.heap.size + 9, 0, none⟩)] wr
      fun r w' => r = .returned (.tuple #[]) ∧ ∃ v1 v2, Mem w w' ⟨x.n, upd x.o a (x.met + 1), upd x.l a (x.met + 1), updB x.k a true, x.c, x.met + 1, v1, v2⟩ (S ++ [a]) (C ++ [(a, 0)]) := by
  obtain ⟨n, o, l, kk, c, met, u1, u2⟩ := x
  obtain ⟨i3, hi3, hz30, hz31, hz32⟩ := info_parts Try.info3
  obtain ⟨i38, hi38, hz80, hz81, hz82⟩ := info_parts Try.info38
  obtain ⟨met', hmet⟩ : ∃ m, m = met + 1 := ⟨_, rfl⟩
  have hmi : Hid ((met : Int) + 1 = (met' : Int)) := by show _ = _; rw [hmet]; omega
  have HF0 := h.free (i := 8) (by omega) 0
  obtain ⟨b1, b3, b5, b7, b8, b9⟩ := h.boxes
  dsimp only at ha hn hm b1 b3 b5 b7 b8 b9 ⊢
  rw [← hmet]
  have HH : Hid _ := h
  clear h
  have HM : Hid (met' = met + 1) := hmet
  clear hmet
  go_enter Try.func22, Try.ntmps22
  go_upto_region 1 with fail
  rw [hmi.out]
  have H1 := HH.out.setMet met'
  generalize (wr.setCell ⟨w.heap.size + 8, 0, none⟩ (.int .i64 (met' : Int))) = W1 at H1 ⊢
  dsimp only at H1
  clear b1 b3 b5 b7 b8 b9 HF0 hmi HH
  obtain ⟨b1, b3, b5, b7, b8, b9⟩ := H1.boxes
  have f0 : ∀ j, W1.frozen? ⟨w.heap.size, j, none⟩ = false := fun j => H1.free (i := 0) (by omega) j
  have f2 := fun j => H1.free (i := 2) (by omega) j
  have c0 := H1.cO (v := a) ha
  have c2 := H1.cL (v := a) ha
  dsimp only at b1 b3 b5 b7 b8 b9 c0 c2
  have H1h : Hid _ := H1
  clear H1
  go_cut [] (fun wx => Mem w wx ⟨n, upd o a met', upd l a met', kk, c, met', u1, u2⟩ S C)
  case first =>
    go_region
    go_wp2_with fail
    go_meet
    exact ((H1h.out.setO a met').setL a met').drewN _
  case rest =>
    clear b1 b3 b5 b7 b8 b9 c0 c2 f0 f2 H1h
    clear W1
    obtain ⟨b1, b3, b5, b7, b8, b9⟩ := hcut.boxes
    have hsz := hcut.szs
    dsimp only at b1 b3 b5 b7 b8 b9
    have HC : Hid _ := hcut
    clear hcut
    obtain ⟨W, hW⟩ : ∃ W, W = wc := ⟨_, rfl⟩
    subst hW
    have HN : Hid (∀ j u, [Value.int .i64 (a : Int)][j]? = some u → (W.alloc (.cells #[.int .i64 (a : Int)] 3)).cell? ((⟨W.heap.size, 0, none⟩ : Addr).add j) = some u) :=
      World.news_of_block (cs := #[.int .i64 (a : Int)]) (t := 3) (fr := (0, 0)) (heap_alloc_new W _)
    have H1C : Hid (∀ u ∈ [Value.int .i64 (a : Int)], u.oneCell' = true) := by show ∀ u ∈ _, _; simp [Value.oneCell']
    have hm1 : S.length + 1 ≤ maxLen := by unfold maxLen; omega
    have HM2 : Hid ((S.length + 1) * 8 ≤ 140737488355328) := by show _ ≤ _; omega
    have HWs : Hid (∀ (ob : Obj), (W.alloc ob).heap.size = W.heap.size + 1) := fun ob => sz_alloc W ob
    have HB2 : Hid (∀ ob : Obj, w.heap.size + 10 ≤ (W.alloc ob).heap.size) := fun ob => by rw [sz_alloc]; omega
    have HO : Hid (∀ ob : Obj, (W.alloc ob).ownsRow (w.heap.size + 10) 3 1 u1 S.length (ints S)) := fun ob => (HC.out.al ob).st
    go_upto_region 2 with fail
    go_cut [] (fun wx => ∃ v1, Mem w wx ⟨n, upd o a met', upd l a met', kk, c, met', v1, u2⟩ (S ++ [a]) C)
    case first =>
      go_wp2_with (at_builtin; (refine wpList_append_lies _ rfl (.tmp 18) (.tmp 20) 25 rfl (w.heap.size + 10) 3 i3 _ 1 8 Try.underlying25 hi3 hz30 hz31 hz32 rfl (by omega) u1 S.length (ints S) rfl (HO.out _) ⟨W.heap.size, 0, none⟩ 1 1 _ rfl rfl HN.out H1C.out (by omega) hm1 HM2.out (HB2.out _) (W.heap.size + 1) (HWs.out _) ?_; intro ca cap w1 ho1 hg1 hat hlt; have hq := (HC.out.al _).grown hg1 (.inl rfl) (i := 7) (by omega); have q0 := cell_blk (i := 0) hq rfl; have qf := free_blk (i := 0) hq; have HO1 : Hid _ := ho1; have HG1 : Hid _ := hg1; have HA : Hid _ := hat; clear ho1 hg1 hq hat))
      go_meet
      have e := HO1.out
      rw [ints_snoc] at e
      exact ⟨_, (HC.out.al _).newS (S' := S ++ [a]) HG1.out (by rw [List.length_append]; exact e) (HA.out.imp id (fun h => by rw [sz_alloc]; omega))⟩
    case rest =>
      clear b1 b3 b5 b7 b8 b9 HC HN H1C hm1 HM2 HWs HB2 HO hsz
      clear W
      obtain ⟨v1, hcut⟩ := hcut
      obtain ⟨b1, b3, b5, b7, b8, b9⟩ := hcut.boxes
      have f4 := fun j => hcut.free (i := 4) (by omega) j
      have c4 := hcut.cK (v := a) ha
      dsimp only at b1 b3 b5 b7 b8 b9 c4
      have HC : Hid _ := hcut
      clear hcut
      go_upto_region 4 with fail
      have H4 := HC.out.setK a true
      generalize (wc.setCell ⟨w.heap.size + 4, a, none⟩ (.bool true)) = W at H4 ⊢
      clear b1 b3 b5 b7 b8 b9 HC f4 c4
      dsimp only at H4
      obtain ⟨b1, b3, b5, b7, b8, b9⟩ := H4.boxes
      have hsz := H4.szs
      dsimp only at b1 b3 b5 b7 b8 b9
      have HC : Hid _ := H4
      clear H4
      have HN : Hid (∀ j u, [Value.int .i64 (a : Int), .int .i64 0][j]? = some u → (W.alloc (.cells #[.int .i64 (a : Int), .int .i64 0] 38)).cell? ((⟨W.heap.size, 0, none⟩ : Addr).add j) = some u) :=
        World.news_of_block (cs := #[.int .i64 (a : Int), .int .i64 0]) (t := 38) (fr := (0, 0)) (heap_alloc_new W _)
      have H1C : Hid (∀ u ∈ [Value.int .i64 (a : Int), .int .i64 0], u.oneCell' = true) := by show ∀ u ∈ _, _; simp [Value.oneCell']
      have hm1 : C.length + 1 ≤ maxLen := by unfold maxLen; omega
      have HM2 : Hid ((C.length + 1) * 16 ≤ 140737488355328) := by show _ ≤ _; omega
      have HWs : Hid (∀ (ob : Obj), (W.alloc ob).heap.size = W.heap.size + 1) := fun ob => sz_alloc W ob
      have HB2 : Hid (∀ ob : Obj, w.heap.size + 10 ≤ (W.alloc ob).heap.size) := fun ob => by rw [sz_alloc]; omega
      have HO : Hid (∀ ob : Obj, (W.alloc ob).ownsRow (w.heap.size + 10) 38 2 u2 C.length (calls C)) := fun ob => (HC.out.al ob).ca
      go_wp2_with (at_builtin; (refine wpList_append_lies _ rfl (.tmp 25) (.tmp 28) 36 rfl (w.heap.size + 10) 38 i38 _ 2 16 Try.underlying36 hi38 hz80 hz81 hz82 rfl (by omega) u2 C.length (calls C) rfl (HO.out _) ⟨W.heap.size, 0, none⟩ 1 1 _ rfl rfl HN.out H1C.out (by omega) hm1 HM2.out (HB2.out _) (W.heap.size + 1) (HWs.out _) ?_; intro ca cap w1 ho1 hg1 hat hlt; have hq := (HC.out.al _).grown hg1 (.inr rfl) (i := 9) (by omega); have q0 := cell_blk (i := 0) hq rfl; have qf := free_blk (i := 0) hq; have HO1 : Hid _ := ho1; have HG1 : Hid _ := hg1; have HA : Hid _ := hat; clear ho1 hg1 hq hat))
      go_end0
      have e := HO1.out
      rw [show [Value.int .i64 (a : Int), .int .i64 0] = [Value.int .i64 (a : Int), .int .i64 ((0 : Nat) : Int)] from rfl, calls_snoc] at e
      exact ⟨rfl, _, _, (HC.out.al _).newC (C' := C ++ [(a, 0)]) HG1.out (by rw [List.length_append]; exact e) (HA.out.imp id (fun h => by rw [sz_alloc]; omega))⟩
end Go.Proofs.Qxb6600314a
