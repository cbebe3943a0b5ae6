/-
  PLAIN: what statePrefix writes, on lists of bytes: no Go in sight.
-/
namespace Go.Proofs.Qxb6600720aMods.StP

/-- What the container that closes with c, at place i of n, opens with. -/
def piece (n i : Nat) (c : Int) : List Int := if c = 93 then [91] else if i + 1 < n then [123, 34, 34, 58] else [123]
/-- The openings of the first k. -/
def opTo (l : List Int) : Nat → List Int
  | 0 => []
  | k + 1 => opTo l k ++ piece l.length k (l.getD k 0)
/-- What the state adds: o: the innermost is an object; p: there is one. -/
def tl (st : Int) (o p : Bool) : List Int :=
  if st = 2 then [34, 34, 58, 110, 117, 108, 108, 44]
  else if st = 0 then (if o then [34, 34, 58] else if p then [110, 117, 108, 108, 44] else [])
  else if st = 4 then (if o then [34, 34, 58, 110, 117, 108, 108] else [110, 117, 108, 108])
  else []
def lastObj (l : List Int) : Bool := l.getD (l.length - 1) 0 == 125
/-- The whole text (of at least one container). -/
def sp (l : List Int) (st : Int) : List Int := opTo l l.length ++ tl st (lastObj l) true

theorem piece_len (n i : Nat) (c : Int) : 1 ≤ (piece n i c).length ∧ (piece n i c).length ≤ 4 := by
  unfold piece; split
  · simp
  · split <;> simp
theorem opTo_len (l : List Int) (k : Nat) : k ≤ (opTo l k).length ∧ (opTo l k).length ≤ 4 * k := by
  induction k with
  | zero => simp [opTo]
  | succ k ih => have := piece_len l.length k (l.getD k 0); simp only [opTo, List.length_append]; omega
theorem tl_len (st : Int) (o p : Bool) : (tl st o p).length ≤ 8 := by
  unfold tl
  split
  · simp
  · split
    · cases o <;> cases p <;> simp
    · split
      · cases o <;> simp
      · simp
theorem tl_1 (o p : Bool) : tl 1 o p = [] := by simp [tl]
theorem tl_3 (o p : Bool) : tl 3 o p = [] := by simp [tl]
theorem sp_1 (l : List Int) : sp l 1 = opTo l l.length := by simp [sp, tl_1]
theorem sp_3 (l : List Int) : sp l 3 = opTo l l.length := by simp [sp, tl_3]

/-- The innermost container alone. -/
theorem sp_one (c st : Int) : ∃ br, sp [c] st = br :: tl st (c == 125) true := by
  by_cases h : c = 93
  · subst h; exact ⟨91, by simp [sp, opTo, piece, lastObj]⟩
  · exact ⟨123, by simp [sp, opTo, piece, lastObj, h]⟩

theorem take_snoc (l : List Int) (k : Nat) (h : k < l.length) : l.take (k + 1) = l.take k ++ [l.getD k 0] := by
  rw [List.take_succ_eq_append_getElem h]; simp [List.getD, h]

theorem count91 (l : List Int) (k : Nat) (h : k ≤ l.length) : (opTo l k).count 91 = (l.take k).count 93 := by
  induction k with
  | zero => simp [opTo]
  | succ k ih =>
    rw [take_snoc l k (by omega), List.count_append, opTo, List.count_append, ih (by omega)]
    congr 1
    unfold piece
    generalize l.getD k 0 = c
    by_cases hc : c = 93
    · subst hc; rfl
    · rw [if_neg hc]
      have : [c].count 93 = 0 := by rw [List.count_eq_zero]; simp; omega
      rw [this]; split <;> rfl

theorem count123 (l : List Int) (k : Nat) (h : k ≤ l.length) : (opTo l k).count 123 + (l.take k).count 93 = k := by
  induction k with
  | zero => simp [opTo]
  | succ k ih =>
    have := ih (by omega)
    rw [take_snoc l k (by omega), List.count_append, opTo, List.count_append]
    unfold piece
    generalize l.getD k 0 = c
    by_cases hc : c = 93
    · subst hc
      have e1 : List.count (123 : Int) (if (93 : Int) = 93 then [91] else if k + 1 < l.length then [123, 34, 34, 58] else [123]) = 0 := rfl
      have e2 : List.count (93 : Int) [93] = 1 := rfl
      rw [e1, e2]; omega
    · have e2 : [c].count 93 = 0 := by rw [List.count_eq_zero]; simp; omega
      rw [if_neg hc, e2]
      split
      · have : List.count (123 : Int) [123, 34, 34, 58] = 1 := rfl
        omega
      · have : List.count (123 : Int) [123] = 1 := rfl
        omega

theorem count_snoc (l : List Int) (k : Nat) (x : Int) (h : k < l.length) : (l.take (k + 1)).count x = (l.take k).count x + (if l.getD k 0 = x then 1 else 0) := by
  rw [take_snoc l k h, List.count_append]
  by_cases e : l.getD k 0 = x
  · rw [if_pos e, e]; simp
  · rw [if_neg e]
    have : [l.getD k 0].count x = 0 := by rw [List.count_eq_zero]; simp; exact fun h => e (by simpa using h.symm)
    omega
theorem count_le (l : List Int) (k : Nat) (x : Int) : (l.take k).count x ≤ k := Nat.le_trans List.count_le_length (by simp; omega)

end Go.Proofs.Qxb6600720aMods.StP
