/-
  WALKS for seat b6600058a: ZZMarks (53), ZZSetSizes (54), ZZJoinedIn (55).
-/
import Derived.Test.Qxb6600058aMaps
namespace Go.Proofs.Qxb6600058a
open Go.RowKit

/-- THE FOUR MAPS. -/
structure Sets (w : World) (mj mu me mt : Nat) (J U E T : List ByteArray) : Prop where
  j : w.ownsMap Try.prog 9 (plainElem Try.prog 22) mj J.length (D (.lit (.int .u64 1)) J)
  u : w.ownsMap Try.prog 9 (plainElem Try.prog 4) mu U.length (D (.lit (.bool true)) U)
  e : w.ownsMap Try.prog 9 (plainElem Try.prog 4) me E.length (D (.lit (.bool true)) E)
  t : w.ownsMap Try.prog 9 (plainElem Try.prog 4) mt T.length (D (.lit (.bool true)) T)

theorem owns_below {H : Type} {R : Value → Option (DataW H × List MemPlace)} {w w' : World} {B b n : Nat} {D : DataW H} (h : w.ownsMap Try.prog 9 R b n D) (hb : Below B w w') (hB : w.heap.size ≤ B) : w'.ownsMap Try.prog 9 R b n D := by
  have hlt := h.lt
  obtain ⟨es, clock, hh, F, hs, hD⟩ := h
  exact ⟨es, clock, (hb.block b (by omega)).trans hh, F, hs, hD⟩

theorem Sets.below {w w' : World} {B mj mu me mt : Nat} {J U E T : List ByteArray} (h : Sets w mj mu me mt J U E T) (hb : Below B w w') (hB : w.heap.size ≤ B) : Sets w' mj mu me mt J U E T :=
  ⟨owns_below h.j hb hB, owns_below h.u hb hB, owns_below h.e hb hB, owns_below h.t hb hB⟩

set_option maxHeartbeats 800000 in
theorem marks53 (w : World) (p : Nat) (x : ByteArray) (mj mu me mt : Nat) (J U E T : List ByteArray) (hx : x.size ≤ maxLen)
    (c4 : w.cell? ⟨p, 4, none⟩ = some (.map (some mj))) (c8 : w.cell? ⟨p, 8, none⟩ = some (.map (some mu))) (c9 : w.cell? ⟨p, 9, none⟩ = some (.map (some me))) (c10 : w.cell? ⟨p, 10, none⟩ = some (.map (some mt)))
    (h : Sets w mj mu me mt J U E T) :
    Calls Try.prog 53 #[.pointer (some ⟨p, 0, none⟩), .string x] w fun e w' => Below w.heap.size w w' ∧ ∃ bj bu be bt : Bool, e = .returned (.tuple #[.bool bj, .bool bu, .bool be, .bool bt]) ∧
      Hid ((x ∈ J → bj = true) ∧ (x ∈ U → bu = true) ∧ (x ∈ E → be = true) ∧ (x ∈ T → bt = true)) := by
  obtain ⟨vj, ps, hj, _⟩ := h.j.look_ok law Try.underlying64 (zero22 w) (plainElem_int Try.underlying22 (by decide)) (kl_key hx)
  obtain ⟨bu, hu, hu'⟩ := look_bool h.u hx
  obtain ⟨be, he, he'⟩ := look_bool h.e hx
  obtain ⟨bt, ht, ht'⟩ := look_bool h.t hx
  have HJ : Hid (x ∈ J → Go.Maps.has (D (.lit (.int .u64 1)) J) (kl x) = true) := fun hm => D_has _ J x hm
  have HU : Hid (x ∈ U → bu = true) := hu'
  have HE : Hid (x ∈ E → be = true) := he'
  have HT : Hid (x ∈ T → bt = true) := ht'
  clear hu' he' ht' h
  generalize Go.Maps.has (D (.lit (.int .u64 1)) J) (kl x) = bj at hj HJ
  go_enter Try.func53, Try.ntmps53
  go_wp2
  go_quiet (fail)
  go_wp2
  refine bodyPost_ret (v := .tuple #[.bool bj, .bool bu, .bool be, .bool bt]) (by simp [results, Try.results53, go_sem]) rfl ?_
  exact ⟨below_drewN (Below.refl _ _) _, bj, bu, be, bt, rfl, HJ.out, HU.out, HE.out, HT.out⟩

def szJ (J : List ByteArray) : Nat := Go.Maps.size (D (.lit (.int .u64 1)) J)
def szB (U : List ByteArray) : Nat := Go.Maps.size (D (.lit (.bool true)) U)

set_option maxHeartbeats 800000 in
theorem sizes54 (w : World) (p : Nat) (mj mu me mt : Nat) (J U E T : List ByteArray)
    (c4 : w.cell? ⟨p, 4, none⟩ = some (.map (some mj))) (c8 : w.cell? ⟨p, 8, none⟩ = some (.map (some mu))) (c9 : w.cell? ⟨p, 9, none⟩ = some (.map (some me))) (c10 : w.cell? ⟨p, 10, none⟩ = some (.map (some mt)))
    (h : Sets w mj mu me mt J U E T) :
    Calls Try.prog 54 #[.pointer (some ⟨p, 0, none⟩)] w fun e w' => e = .returned (.tuple #[.int .i64 (szJ J), .int .i64 (szB U), .int .i64 (szB E), .int .i64 (szB T)]) ∧ Below w.heap.size w w' := by
  have hj : ∀ k, (Builtin.len_ #[64] 3 #[.map (some mj)]).run Try.prog (w.drewN k) = .ok (.int .i64 (szJ J)) (w.drewN k) := fun k => World.ownsMap.len (w := w.drewN k) h.j Try.underlying64 3
  have hu : ∀ k, (Builtin.len_ #[65] 3 #[.map (some mu)]).run Try.prog (w.drewN k) = .ok (.int .i64 (szB U)) (w.drewN k) := fun k => World.ownsMap.len (w := w.drewN k) h.u Try.underlying65 3
  have he : ∀ k, (Builtin.len_ #[65] 3 #[.map (some me)]).run Try.prog (w.drewN k) = .ok (.int .i64 (szB E)) (w.drewN k) := fun k => World.ownsMap.len (w := w.drewN k) h.e Try.underlying65 3
  have ht : ∀ k, (Builtin.len_ #[65] 3 #[.map (some mt)]).run Try.prog (w.drewN k) = .ok (.int .i64 (szB T)) (w.drewN k) := fun k => World.ownsMap.len (w := w.drewN k) h.t Try.underlying65 3
  clear h
  go_enter Try.func54, Try.ntmps54
  go_wp2
  go_quiet (fail)
  go_wp2
  refine bodyPost_ret (v := .tuple #[.int .i64 (szJ J), .int .i64 (szB U), .int .i64 (szB E), .int .i64 (szB T)]) (by simp [results, Try.results54, go_sem]) rfl ?_
  exact ⟨rfl, below_drewN (Below.refl _ _) _⟩

theorem sizes36 (w : World) (p q : Nat) (mj mu me mt : Nat) (nj nu ne nt : Nat) (J U E T : List ByteArray)
    (c4 : w.cell? ⟨p, 4, none⟩ = some (.map (some mj))) (c8 : w.cell? ⟨p, 8, none⟩ = some (.map (some mu))) (c9 : w.cell? ⟨p, 9, none⟩ = some (.map (some me))) (c10 : w.cell? ⟨p, 10, none⟩ = some (.map (some mt)))
    (d4 : w.cell? ⟨q, 4, none⟩ = some (.map (some nj))) (d8 : w.cell? ⟨q, 8, none⟩ = some (.map (some nu))) (d9 : w.cell? ⟨q, 9, none⟩ = some (.map (some ne))) (d10 : w.cell? ⟨q, 10, none⟩ = some (.map (some nt)))
    (h : Sets w mj mu me mt J U E T) (h' : Sets w nj nu ne nt J U E T) :
    Calls Try.prog 36 #[.pointer (some ⟨p, 0, none⟩), .pointer (some ⟨q, 0, none⟩)] w fun e w' => e = .returned (.bool true) ∧ Below w.heap.size w w' := by
  have hq : q < w.heap.size := World.block_lt_of_cell? _ _ d4
  go_enter Try.func36, Try.ntmps36
  go_wp2_with fail
  refine (sizes54 w p mj mu me mt J U E T c4 c8 c9 c10 h).mono ?_
  rintro e w1 ⟨rfl, hb1⟩
  go_wp2_with fail
  refine (sizes54 w1 q nj nu ne nt J U E T ((hb1.cell (p := ⟨q, 4, none⟩) hq).trans d4) ((hb1.cell (p := ⟨q, 8, none⟩) hq).trans d8) ((hb1.cell (p := ⟨q, 9, none⟩) hq).trans d9) ((hb1.cell (p := ⟨q, 10, none⟩) hq).trans d10) (h'.below hb1 (Nat.le_refl _))).mono ?_
  rintro e w2 ⟨rfl, hb2⟩
  have e1 : ((szJ J : Int) == (szJ J : Int)) = true := by simp
  have e2 : ((szB U : Int) == (szB U : Int)) = true := by simp
  have e3 : ((szB E : Int) == (szB E : Int)) = true := by simp
  have e4 : ((szB T : Int) == (szB T : Int)) = true := by simp
  go_wp2
  go_ret
  exact ⟨rfl, hb1.trans (hb2.mono hb1.size)⟩

def atJ (J : List ByteArray) (x : ByteArray) (c : Int) : Prop := (D (.lit (.int .u64 1)) J).atKey (kl x) (.lit (.int .u64 0)) = .lit (.int .u64 c)
def hasJ (J : List ByteArray) (x : ByteArray) : Bool := Go.Maps.has (D (.lit (.int .u64 1)) J) (kl x)
theorem atJ_inj {J : List ByteArray} {x : ByteArray} {c d : Int} (h : atJ J x c) (h' : atJ J x d) : c = d := by
  unfold atJ at h h'
  rw [h] at h'
  simpa using h'

theorem joined55 (w : World) (p : Nat) (x : ByteArray) (mj n : Nat) (J : List ByteArray) (hx : x.size ≤ maxLen)
    (c4 : w.cell? ⟨p, 4, none⟩ = some (.map (some mj))) (h : w.ownsMap Try.prog 9 (plainElem Try.prog 22) mj n (D (.lit (.int .u64 1)) J)) :
    Calls Try.prog 55 #[.pointer (some ⟨p, 0, none⟩), .string x] w fun e w' => w' = w ∧ ∃ c : Int, e = .returned (.tuple #[.int .u64 c, .bool (hasJ J x)]) ∧ atJ J x c := by
  obtain ⟨vj, ps, hj, hv⟩ := h.look_ok law Try.underlying64 (zero22 w) (plainElem_int Try.underlying22 (by decide)) (kl_key hx)
  obtain ⟨c, rfl, hc, _⟩ := plainElem_int_inv Try.underlying22 hv
  have HC : Hid (atJ J x c) := congrArg Prod.fst hc
  have hj' : (Instr.lookup 64 (.map (some mj)) (.string x) true).run Try.prog w = .ok (.tuple #[.int .u64 c, .bool (hasJ J x)]) w := hj
  clear hj hv hc h
  go_enter Try.func55, Try.ntmps55
  go_wp2
  go_ret2
  exact ⟨rfl, c, rfl, HC.out⟩

set_option maxHeartbeats 800000 in
theorem joined37 (w : World) (p q : Nat) (mj nj n n' : Nat) (J : List ByteArray) (a : Option Addr) (len cap : Nat) (ss : List ByteArray) (g1 g2 : ByteArray)
    (c4 : w.cell? ⟨p, 4, none⟩ = some (.map (some mj))) (d4 : w.cell? ⟨q, 4, none⟩ = some (.map (some nj)))
    (h : w.ownsMap Try.prog 9 (plainElem Try.prog 22) mj n (D (.lit (.int .u64 1)) J)) (h' : w.ownsMap Try.prog 9 (plainElem Try.prog 22) nj n' (D (.lit (.int .u64 1)) J))
    (hs : HasS w a len cap ss) (hsm : len ≤ 65536) :
    Calls Try.prog 37 #[.pointer (some ⟨p, 0, none⟩), .pointer (some ⟨q, 0, none⟩), .slice a len cap, .string g1, .string g2, .bool false] w fun e w' => e = .returned (.bool true) ∧ w' = w := by
  go_enter Try.func37, Try.ntmps37
  go_wp2
  go_loop [21, 14] (fun i _ => ∃ k : Nat, k ≤ len ∧ i = .int .i64 k) (fun i _ => len - (intOf i).toNat)
  case atStart => exact ⟨0, Nat.zero_le _, rfl⟩
  case round =>
    obtain ⟨k, hk, rfl⟩ := hrel
    by_cases hlt : k < len
    · obtain ⟨b, off, rfl, s, -, -, hsz, hc⟩ := hs.get hlt
      go_wp2_with fail
      refine (joined55 w p s mj n J hsz c4 h).mono ?_
      rintro e w1 ⟨rfl, c, rfl, hat⟩
      go_wp2_with fail
      refine (joined55 _ q s nj n' J hsz d4 h').mono ?_
      rintro e w2 ⟨rfl, c', rfl, hat'⟩
      obtain rfl := atJ_inj hat hat'
      have e1 : (c != c) = false := by simp
      have e2 : (hasJ J s != hasJ J s) = false := by simp
      go_wp2
      go_round
      case rel => exact ⟨k + 1, by omega, by go_num⟩
      case measure => simp [intOf]; omega
    · go_wp2
      go_ret
      exact ⟨rfl, rfl⟩
end Go.Proofs.Qxb6600058a
