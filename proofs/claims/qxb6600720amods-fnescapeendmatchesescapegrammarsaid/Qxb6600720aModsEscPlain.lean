/-
  PLAIN: what an escape is, on lists of bytes: no Go in sight.
-/
namespace Go.Proofs.Qxb6600720aMods.EscP

def simple (c : Int) : Bool := c == 34 || c == 92 || c == 47 || c == 98 || c == 102 || c == 110 || c == 114 || c == 116
def hex (c : Int) : Bool := (48 ≤ c && c ≤ 57) || (97 ≤ c && c ≤ 102) || (65 ≤ c && c ≤ 70)

/-- How many of the first n are hexadecimal digits, up to the first that is none. -/
def run : Nat → List Int → Nat
  | 0, _ => 0
  | _ + 1, [] => 0
  | n + 1, c :: t => if hex c then run n t + 1 else 0

/-- The bytes behind the backslash: how many of them the answer passes, and whether they are an escape. -/
def esc : List Int → Nat × Bool
  | [] => (0, false)
  | c :: t => if simple c then (1, true) else if c = 117 then (if run 4 t = 4 then (5, true) else (run 4 t + 1, false)) else (0, false)

theorem run_le (n : Nat) (t : List Int) : run n t ≤ n ∧ run n t ≤ t.length := by
  induction n generalizing t with
  | zero => simp [run]
  | succ n ih =>
    cases t with
    | nil => simp [run]
    | cons c t => simp only [run]; split
                  · have := ih t; simp; omega
                  · simp

theorem esc_le (t : List Int) : (esc t).1 ≤ 5 ∧ (esc t).1 ≤ t.length := by
  cases t with
  | nil => simp [esc]
  | cons c t =>
    have := run_le 4 t
    simp only [esc, List.length_cons]
    split
    · simp
    · split
      · split
        · simp; omega
        · simp; omega
      · simp

theorem esc_ok (t : List Int) (h : (esc t).2 = true) : (esc t).1 = 1 ∨ (esc t).1 = 5 := by
  cases t with
  | nil => simp [esc] at h
  | cons c t =>
    simp only [esc] at *
    split
    · simp
    · rename_i h1
      simp only [h1] at h
      split
      · rename_i h2
        simp only [h2] at h
        split
        · simp
        · rename_i h3; simp [h3] at h
      · rename_i h2; simp [h2] at h

/-- Only what is passed, and the byte at fault, is looked at: the run. -/
theorem run_take (n k : Nat) (t s : List Int) (h : run n t < k ∨ n ≤ k) (hs : k ≤ t.length) : run n (t.take k ++ s) = run n t := by
  induction n generalizing t k with
  | zero => simp [run]
  | succ n ih =>
    cases t with
    | nil =>
      have : k = 0 := by simpa using hs
      subst this
      rcases h with h | h <;> omega
    | cons c t =>
      cases k with
      | zero => rcases h with h | h <;> omega
      | succ k =>
        simp only [List.take_succ_cons, List.cons_append, run]
        by_cases hc : hex c
        · simp only [hc, if_true]
          rw [ih k t (by simp only [run, hc, if_true] at h; omega) (by simpa using hs)]
        · simp [hc]

/-- An accepted escape is accepted alike whatever follows it. -/
theorem esc_take_ok (t s : List Int) (h : (esc t).2 = true) : esc (t.take (esc t).1 ++ s) = esc t := by
  cases t with
  | nil => simp [esc] at h
  | cons c t =>
    by_cases h1 : simple c
    · simp [esc, h1]
    · by_cases h2 : c = 117
      · subst h2
        by_cases h3 : run 4 t = 4
        · have e : esc (117 :: t) = (5, true) := by simp [esc, h1, h3]
          rw [e]
          have hl := (run_le 4 t).2
          have := run_take 4 4 t s (.inr (Nat.le_refl _)) (by omega)
          simp only [List.take_succ_cons, List.cons_append, esc, h1, this, h3]
          simp
        · simp [esc, h1, h3] at h
      · simp [esc, h1, h2] at h

/-- A refusal at a byte is refused alike whatever follows that byte. -/
theorem esc_take_no (t s : List Int) (h : (esc t).2 = false) (hl : (esc t).1 < t.length) : esc (t.take ((esc t).1 + 1) ++ s) = esc t := by
  cases t with
  | nil => simp at hl
  | cons c t =>
    by_cases h1 : simple c
    · simp [esc, h1] at h
    · by_cases h2 : c = 117
      · subst h2
        by_cases h3 : run 4 t = 4
        · simp [esc, h1, h3] at h
        · have e : esc (117 :: t) = (run 4 t + 1, false) := by simp [esc, h1, h3]
          rw [e] at hl ⊢
          simp at hl
          have := run_take 4 (run 4 t + 1) t s (.inl (by omega)) (by omega)
          simp only [List.take_succ_cons, List.cons_append, esc, h1, this, h3]
          simp
      · have e : esc (c :: t) = (0, false) := by simp [esc, h1, h2]
        rw [e]
        simp [esc, h1, h2]

/-- Five bytes are enough. -/
theorem esc_window (t : List Int) : esc (t.take 5) = esc t := by
  cases t with
  | nil => rfl
  | cons c t =>
    have : run 4 (t.take 4) = run 4 t := by
      by_cases h : 4 ≤ t.length
      · have := run_take 4 4 t [] (.inr (Nat.le_refl _)) h
        simpa using this
      · rw [List.take_of_length_le (by omega)]
    simp only [List.take_succ_cons, esc, this]

/-- The run, a step at a time. -/
theorem run_step (n : Nat) (c : Int) (t : List Int) (h : hex c = true) : run (n + 1) (c :: t) = run n t + 1 := by simp [run, h]
theorem run_stop (n : Nat) (c : Int) (t : List Int) (h : hex c = false) : run (n + 1) (c :: t) = 0 := by simp [run, h]
theorem run_end (n : Nat) : run n [] = 0 := by cases n <;> rfl

theorem esc_u_no (t : List Int) (k : Nat) (h : run 4 t = k) (hk : k < 4) : esc (117 :: t) = (k + 1, false) := by
  have : ¬ k = 4 := by omega
  simp [esc, simple, h, this]
theorem esc_u_yes (t : List Int) (h : run 4 t = 4) : esc (117 :: t) = (5, true) := by simp [esc, simple, h]

end Go.Proofs.Qxb6600720aMods.EscP
