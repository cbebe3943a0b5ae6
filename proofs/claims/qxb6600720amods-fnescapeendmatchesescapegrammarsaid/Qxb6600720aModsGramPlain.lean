/-
  PLAIN: the grammar of an escape, held against 'esc': no Go in sight.
-/
import Derived.Test.Qxb6600720aModsEscPlain
namespace Go.Proofs.Qxb6600720aMods.GramP
open EscP

/-- t begins some escape (at most five bytes). -/
def pre : List Int → Bool
  | [] => true
  | c :: t => if simple c then t.isEmpty else (c == 117 && t.all hex)

/-- t is a whole escape. -/
def comp (t : List Int) : Bool := if t.length = 1 then simple (t.getD 0 0) else (t.length == 5 && (t.getD 0 0 == 117 && pre t))

theorem all_take (n j : Nat) (t : List Int) (hj : j ≤ n) (hl : j ≤ t.length) : (t.take j).all hex = decide (j ≤ run n t) := by
  induction n generalizing j t with
  | zero => have : j = 0 := by omega
            subst this; simp
  | succ n ih =>
    cases j with
    | zero => simp
    | succ j =>
      cases t with
      | nil => simp at hl
      | cons c t =>
        have h := ih j t (by omega) (by simpa using hl)
        simp only [List.take_succ_cons, List.all_cons, h, run]
        by_cases hc : hex c
        · simp [hc]
        · simp [hc]

theorem len_take (t : List Int) (k : Nat) (h : k ≤ t.length) : (t.take k).length = k := by simp; omega

theorem comp_short (t : List Int) (k : Nat) (h2 : 2 ≤ k) (h5 : k < 5) (hl : k ≤ t.length) : comp (t.take k) = false := by
  have e := len_take t k hl
  have n1 : ¬ k = 1 := by omega
  have n5 : ¬ k = 5 := by omega
  simp only [comp, e, n1, if_false]
  simp [n5]

theorem comp_one (c : Int) (t : List Int) : comp ((c :: t).take 1) = simple c := by simp [comp]

theorem comp_five (t : List Int) (hl : 4 ≤ t.length) : comp ((117 :: t).take 5) = decide (4 ≤ run 4 t) := by
  have h := all_take 4 4 t (by omega) hl
  have hm : min 4 t.length = 4 := by omega
  simp only [List.take_succ_cons, comp, pre, List.length_cons, List.length_take, hm, h]
  simp [simple]

theorem comp_five_no (c : Int) (t : List Int) (hc : ¬ c = 117) (k : Nat) (h2 : 2 ≤ k) (hl : k ≤ t.length + 1) : comp ((c :: t).take k) = false := by
  obtain ⟨k, rfl⟩ : ∃ j, k = j + 1 := ⟨k - 1, by omega⟩
  have e : ((c :: t).take (k + 1)).length = k + 1 := len_take _ _ (by simpa using hl)
  have n1 : ¬ k + 1 = 1 := by omega
  simp only [comp, e, n1, if_false]
  simp [hc]

/-- An accepted escape is the first whole one. -/
theorem first (t : List Int) (E : Nat) (h : esc t = (E, true)) : 1 ≤ E ∧ E ≤ 5 ∧ E ≤ t.length ∧ comp (t.take E) = true ∧ ∀ k, 1 ≤ k → k < E → comp (t.take k) = false := by
  cases t with
  | nil => simp [esc] at h
  | cons c t =>
    by_cases h1 : simple c = true
    · have e : E = 1 := by simp [esc, h1] at h; omega
      subst e
      exact ⟨by omega, by omega, by simp, by rw [comp_one]; exact h1, fun k _ _ => by omega⟩
    · by_cases h2 : c = 117
      · subst h2
        by_cases h3 : run 4 t = 4
        · have e : E = 5 := by simp [esc, simple, h3] at h; omega
          subst e
          have hl := (run_le 4 t).2
          refine ⟨by omega, by omega, by simp; omega, by rw [comp_five t (by omega), h3]; rfl, fun k hk hk5 => ?_⟩
          by_cases e1 : k = 1
          · subst e1; rw [comp_one]; rfl
          · exact comp_short _ k (by omega) hk5 (by simp; omega)
        · simp [esc, simple, h3] at h
      · simp [esc, h1, h2] at h

/-- Where there is none, no beginning is whole, and the beginnings that begin one are those up to the answer. -/
theorem none' (t : List Int) (E : Nat) (h : esc t = (E, false)) (k : Nat) (h1 : 1 ≤ k) (h5 : k ≤ 5) (hl : k ≤ t.length) : comp (t.take k) = false ∧ pre (t.take k) = decide (k ≤ E) := by
  cases t with
  | nil => simp at hl; omega
  | cons c t =>
    simp at hl
    by_cases hs : simple c = true
    · simp [esc, hs] at h
    · have hs' : simple c = false := by simpa using hs
      obtain ⟨j, rfl⟩ : ∃ j, k = j + 1 := ⟨k - 1, by omega⟩
      by_cases h2 : c = 117
      · subst h2
        by_cases h3 : run 4 t = 4
        · simp [esc, simple, h3] at h
        · have e : E = run 4 t + 1 := by simp [esc, simple, h3] at h; omega
          subst e
          have hr := (run_le 4 t).1
          refine ⟨?_, ?_⟩
          · by_cases e1 : j = 0
            · subst e1; exact comp_one 117 t
            · by_cases e5 : j = 4
              · subst e5; rw [comp_five t (by omega)]; exact decide_eq_false (by omega)
              · exact comp_short _ (j + 1) (by omega) (by omega) (by simp; omega)
          · have ha := all_take 4 j t (by omega) (by omega)
            simp only [List.take_succ_cons, pre, hs', ha]
            simp
      · have e : E = 0 := by simp [esc, hs', h2] at h; omega
        subst e
        refine ⟨?_, ?_⟩
        · by_cases e1 : j = 0
          · subst e1; rw [comp_one]; exact hs'
          · exact comp_five_no c t h2 (j + 1) (by omega) (by omega)
        · simp [pre, hs', h2]

end Go.Proofs.Qxb6600720aMods.GramP
