/-
  PLAIN LAWS for seat b6600131a: what skipString finds, as a function on lists of numbers; no Go in sight.
-/
namespace Go.Proofs.Qxb6600131a.Plain

/-- How far behind an opening quote the string's end lies: 'none' where the text ends inside the string. -/
def scan : List Int → Option Nat
  | [] => none
  | [c] => if c = 92 then none else if c = 34 then some 1 else none
  | c :: d :: r => if c = 92 then (scan r).map (· + 2) else if c = 34 then some 1 else (scan (d :: r)).map (· + 1)

/-- The body of a string, escaped. -/
def enc : List Int → List Int
  | [] => []
  | b :: r => (if b = 34 ∨ b = 92 ∨ b < 32 then [92, b] else [b]) ++ enc r

theorem enc_len (l : List Int) : (enc l).length ≤ 2 * l.length := by
  induction l with
  | nil => simp [enc]
  | cons b r ih =>
    simp only [enc, List.length_append, List.length_cons]
    split <;> simp <;> omega

theorem enc_snoc (l : List Int) (b : Int) : enc (l ++ [b]) = enc l ++ (if b = 34 ∨ b = 92 ∨ b < 32 then [92, b] else [b]) := by
  induction l with
  | nil => simp [enc]
  | cons c r ih => simp [enc, ih]

theorem scan_bs (d : Int) (r : List Int) : scan (92 :: d :: r) = (scan r).map (· + 2) := by simp [scan]
theorem scan_q (r : List Int) : scan (34 :: r) = some 1 := by cases r <;> simp [scan]
theorem scan_o (c : Int) (r : List Int) (h1 : ¬ c = 92) (h2 : ¬ c = 34) : scan (c :: r) = (scan r).map (· + 1) := by
  cases r <;> simp [scan, h1, h2]

theorem scan_enc (l tl : List Int) (h : tl = [] ∨ tl = [92]) : scan (enc l ++ tl) = none := by
  induction l with
  | nil => rcases h with rfl | rfl <;> simp [enc, scan]
  | cons b r ih =>
    simp only [enc]
    split
    · simp only [List.cons_append, List.nil_append, scan_bs, ih, Option.map_none]
    · rename_i hb
      simp only [List.cons_append, List.nil_append]
      rw [scan_o _ _ (fun e => hb (.inr (.inl e))) (fun e => hb (.inl e)), ih]
      rfl

theorem scan_some (n : Nat) : ∀ (l : List Int), l.length ≤ n → ∀ k, scan l = some k →
    1 ≤ k ∧ k ≤ l.length ∧ l.getD (k - 1) 0 = 34 ∧ scan (l.take k) = some k ∧ scan (l.take (k - 1)) = none := by
  induction n with
  | zero =>
    intro l hl k h
    obtain rfl : l = [] := List.eq_nil_of_length_eq_zero (by omega)
    simp [scan] at h
  | succ n ih =>
    intro l hl k h
    match l, hl, h with
    | [], _, h => simp [scan] at h
    | c :: r, hl, h =>
      by_cases h2 : c = 34
      · subst h2
        rw [scan_q] at h
        obtain rfl : 1 = k := by simpa using h
        simp [scan]
      · by_cases h1 : c = 92
        · subst h1
          match r, hl, h with
          | [], _, h => simp [scan] at h
          | d :: r', hl, h =>
            rw [scan_bs] at h
            obtain ⟨m, hm, rfl⟩ := Option.map_eq_some_iff.1 h
            obtain ⟨a1, a2, a3, a4, a5⟩ := ih r' (by simp at hl; omega) m hm
            obtain ⟨q, rfl⟩ : ∃ q, m = q + 1 := ⟨m - 1, by omega⟩
            simp only [Nat.add_sub_cancel] at a3 a5
            refine ⟨by omega, by simp; omega, ?_, ?_, ?_⟩
            · show (92 :: d :: r').getD (q + 2) 0 = 34
              simpa using a3
            · show scan (92 :: d :: r'.take (q + 1)) = _
              rw [scan_bs, a4]; rfl
            · show scan (92 :: d :: r'.take q) = _
              rw [scan_bs, a5]; rfl
        · rw [scan_o c r h1 h2] at h
          obtain ⟨m, hm, rfl⟩ := Option.map_eq_some_iff.1 h
          obtain ⟨a1, a2, a3, a4, a5⟩ := ih r (by simp at hl; omega) m hm
          obtain ⟨q, rfl⟩ : ∃ q, m = q + 1 := ⟨m - 1, by omega⟩
          simp only [Nat.add_sub_cancel] at a3 a5
          refine ⟨by omega, by simp; omega, ?_, ?_, ?_⟩
          · show (c :: r).getD (q + 1) 0 = 34
            simpa using a3
          · show scan (c :: r.take (q + 1)) = _
            rw [scan_o _ _ h1 h2, a4]; rfl
          · show scan (c :: r.take q) = _
            rw [scan_o _ _ h1 h2, a5]; rfl

/-- Where, from place p of the text T on, the string ends. -/
def ans (T : List Int) (p : Nat) : Option Nat := (scan (T.drop p)).map (· + p)

theorem drop_at (T : List Int) (p : Nat) (h : p < T.length) : T.drop p = T.getD p 0 :: T.drop (p + 1) := by
  rw [List.drop_eq_getElem_cons h, List.getD_eq_getElem?_getD, List.getElem?_eq_getElem h]; rfl

theorem ans_end (T : List Int) (p : Nat) (h : T.length ≤ p) : ans T p = none := by
  unfold ans; rw [List.drop_eq_nil_of_le h]; rfl

theorem ans_bs (T : List Int) (p : Nat) (h : p < T.length) (e : T.getD p 0 = 92) : ans T p = ans T (p + 2) := by
  unfold ans
  rw [drop_at T p h, e]
  by_cases h2 : p + 1 < T.length
  · rw [drop_at T (p + 1) h2, scan_bs]
    simp only [Option.map_map]
    congr 1
    funext x
    simp only [Function.comp]
    omega
  · rw [List.drop_eq_nil_of_le (by omega : T.length ≤ p + 1), List.drop_eq_nil_of_le (by omega : T.length ≤ p + 2)]
    rfl

theorem ans_q (T : List Int) (p : Nat) (h : p < T.length) (e : T.getD p 0 = 34) : ans T p = some (p + 1) := by
  unfold ans
  rw [drop_at T p h, e, scan_q]
  simp only [Option.map_some]
  congr 1
  omega

theorem ans_o (T : List Int) (p : Nat) (h : p < T.length) (h1 : ¬ T.getD p 0 = 92) (h2 : ¬ T.getD p 0 = 34) : ans T p = ans T (p + 1) := by
  unfold ans
  rw [drop_at T p h, scan_o _ _ h1 h2]
  simp only [Option.map_map]
  congr 1
  funext x
  simp only [Function.comp]
  omega

theorem ans_enc (pre l tl : List Int) (h : tl = [] ∨ tl = [92]) : ans (pre ++ [34] ++ enc l ++ tl) (pre.length + 1) = none := by
  unfold ans
  have e : (pre ++ [34] ++ enc l ++ tl).drop (pre.length + 1) = enc l ++ tl := by
    rw [List.append_assoc, List.append_assoc, List.drop_append]
    rw [List.drop_eq_nil_of_le (by omega)]
    simp
  rw [e, scan_enc l tl h]
  rfl

theorem ans_some (T : List Int) (p j : Nat) (h : ans T p = some j) :
    p < j ∧ j ≤ T.length ∧ T.getD (j - 1) 0 = 34 ∧ ans (T.take j) p = some j ∧ ans (T.take (j - 1)) p = none := by
  unfold ans at h ⊢
  obtain ⟨k, hk, rfl⟩ := Option.map_eq_some_iff.1 h
  obtain ⟨a1, a2, a3, a4, a5⟩ := scan_some _ _ (Nat.le_refl _) k hk
  have hl : k ≤ T.length - p := by simpa using a2
  refine ⟨by omega, by omega, ?_, ?_, ?_⟩
  · rw [List.getD_eq_getElem?_getD, List.getElem?_drop] at a3
    rw [List.getD_eq_getElem?_getD, show k + p - 1 = p + (k - 1) from by omega]
    exact a3
  · rw [List.drop_take, show k + p - p = k from by omega, a4]
    rfl
  · rw [List.drop_take, show k + p - 1 - p = k - 1 from by omega, a5]
    rfl

end Go.Proofs.Qxb6600131a.Plain
