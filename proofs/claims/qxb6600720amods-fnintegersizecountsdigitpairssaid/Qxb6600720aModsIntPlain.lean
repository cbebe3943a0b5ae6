/-
  PLAIN: the decimal digits of a number: no Go in sight. 't': the power of its last digit that is not nought; 'h': the power of its first.
-/
namespace Go.Proofs.Qxb6600720aMods.IntP

/-- The digit of power k of u, with all that stands ahead of it. -/
def up (u k : Nat) : Nat := u / 10 ^ k

theorem up_zero (u : Nat) : up u 0 = u := by simp [up]
theorem up_succ (u k : Nat) : up u (k + 1) = up u k / 10 := by
  simp [up, Nat.pow_succ, Nat.div_div_eq_div_mul]

structure Digs (u t h : Nat) : Prop where
  th : t ≤ h
  h19 : h ≤ 19
  zeros : ∀ k, k < t → up u k % 10 = 0
  low : up u t % 10 ≠ 0
  tens : ∀ k, k < h → 10 ≤ up u k
  high : up u h < 10
  pos : 0 < up u h

theorem up_mono (u : Nat) {j k : Nat} (h : j ≤ k) : up u k ≤ up u j := by
  induction k with
  | zero => have : j = 0 := by omega
            subst this; omega
  | succ k ih =>
    by_cases e : j = k + 1
    · subst e; omega
    · have := ih (by omega)
      rw [up_succ]; omega

theorem up_small (u k : Nat) (h : u < 10 ^ k) : up u k = 0 := by
  unfold up; exact Nat.div_eq_of_lt h

/-- The first power at which a test turns. -/
theorem least (p : Nat → Prop) (n : Nat) (h : p n) : ∃ k, k ≤ n ∧ p k ∧ ∀ j, j < k → ¬ p j := by
  induction n using Nat.strongRecOn with
  | ind n ih =>
    by_cases e : ∃ j, j < n ∧ p j
    · obtain ⟨j, hj, pj⟩ := e
      obtain ⟨k, hk, pk, hl⟩ := ih j hj pj
      exact ⟨k, by omega, pk, hl⟩
    · exact ⟨n, Nat.le_refl _, h, fun j hj pj => e ⟨j, hj, pj⟩⟩

theorem digs (u : Nat) (h0 : 0 < u) (h1 : u < 18446744073709551616) : ∃ t h, Digs u t h := by
  have h20 : up u 20 = 0 := up_small u 20 (by omega)
  have h20' : up u 19 < 10 := by have e : up u 20 = up u 19 / 10 := up_succ u 19; omega
  obtain ⟨h, hh, hp, hl⟩ := least (fun k => up u k < 10) 19 h20'
  have tens : ∀ k, k < h → 10 ≤ up u k := fun k hk => by have := hl k hk; omega
  have pos : 0 < up u h := by
    cases h with
    | zero => rw [up_zero]; exact h0
    | succ h => rw [up_succ]; have := tens h (by omega); omega
  obtain ⟨t, ht, tp, tl⟩ := least (fun k => up u k % 10 ≠ 0) h (by
    show up u h % 10 ≠ 0
    have hp' : up u h < 10 := hp
    omega)
  exact ⟨t, h, ht, hh, fun k hk => by have := tl k hk; omega, tp, tens, hp, pos⟩

end Go.Proofs.Qxb6600720aMods.IntP
