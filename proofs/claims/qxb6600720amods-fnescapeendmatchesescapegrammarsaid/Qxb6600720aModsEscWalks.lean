/-
  THE WALKS of isHex, escapeEnd, ZZescapeEnd (functions 29, 25, 18).
-/
import Derived.Test.Qxb6600720aModsMem
import Derived.Test.Qxb6600720aModsEscPlain
namespace Go.Proofs.Qxb6600720aMods.EscW
open Go.RowKit EscP Mem
set_option linter.unusedVariables false

theorem ret_bool {a b : Bool} (h : a = b) : Ending.returned (.bool a) = .returned (.bool b) := by rw [h]

theorem isHex_any (c : Int) (w : World) :
    Calls Trym.prog 29 #[.int .u8 c] w fun e w' => e = .returned (.bool (hex c)) ∧ w' = w := by
  go_enter Trym.func29, Trym.ntmps29
  go_wp2
  all_goals
    go_ret
    exact ⟨ret_bool (by rw [Bool.eq_iff_iff]; simp [hex]; omega), rfl⟩

/-- What escapeEnd answers at place i of the bytes l. -/
def ans (l : List Int) (i : Nat) : Ending := .returned (.tuple #[.int .i64 ((i : Int) + 1 + ((esc (l.drop (i + 1))).1 : Int)), .bool (esc (l.drop (i + 1))).2])

theorem ans_of {l : List Int} {i k : Nat} {o : Bool} {m : Int} (h : esc (l.drop (i + 1)) = (k, o)) (hm : m = (i : Int) + 1 + (k : Int)) : Ending.returned (.tuple #[.int .i64 m, .bool o]) = ans l i := by
  unfold ans; rw [h, hm]

theorem drop_cons (l : List Int) (k : Nat) (h : k < l.length) : l.drop k = l.getD k 0 :: l.drop (k + 1) := by
  rw [List.drop_eq_getElem_cons h]; simp [List.getD, h]

theorem esc_end (b off n cap i : Nat) (l : List Int) (hl : l.length = n) (hi : i + 1 = n) (hm : n ≤ 1048576) (w : World) :
    Calls Trym.prog 25 #[.slice (some ⟨b, off, none⟩) n cap, .int .i64 i] w fun e w' => e = ans l i ∧ w' = w := by
  have he : (((i : Int) + 1) == (n : Int)) = true := by simp; omega
  go_enter Trym.func25, Trym.ntmps25
  go_wp2
  go_ret2
  refine ⟨ans_of (k := 0) (by rw [List.drop_eq_nil_of_le (by omega)]; rfl) (by omega), rfl⟩

theorem esc_simple (b off n cap i : Nat) (l : List Int) (c : Int) (hl : l.length = n) (hi : i + 1 < n) (hm : n ≤ 1048576) (w : World) (hc1 : w.cell? ⟨b, off + (i + 1), none⟩ = some (.int .u8 c))
    (HD : Hid (l.drop (i + 1) = c :: l.drop (i + 1 + 1))) (hs : simple c = true) :
    Calls Trym.prog 25 #[.slice (some ⟨b, off, none⟩) n cap, .int .i64 i] w fun e w' => e = ans l i ∧ w' = w := by
  have he : (((i : Int) + 1) == (n : Int)) = false := by simp; omega
  have hk : c = 34 ∨ c = 92 ∨ c = 47 ∨ c = 98 ∨ c = 102 ∨ c = 110 ∨ c = 114 ∨ c = 116 := by
    simp [simple] at hs; omega
  clear hs
  rcases hk with rfl | rfl | rfl | rfl | rfl | rfl | rfl | rfl
  all_goals
    go_enter Trym.func25, Trym.ntmps25
    go_wp2
    go_ret2
    exact ⟨ans_of (k := 1) (by rw [HD.out]; simp [esc, simple]) (by omega), rfl⟩

theorem esc_bad (b off n cap i : Nat) (l : List Int) (c : Int) (hl : l.length = n) (hi : i + 1 < n) (hm : n ≤ 1048576) (w : World) (hc1 : w.cell? ⟨b, off + (i + 1), none⟩ = some (.int .u8 c))
    (HD : Hid (l.drop (i + 1) = c :: l.drop (i + 1 + 1))) (HS : Hid (simple c = false)) (h9 : (c == 117) = false) :
    Calls Trym.prog 25 #[.slice (some ⟨b, off, none⟩) n cap, .int .i64 i] w fun e w' => e = ans l i ∧ w' = w := by
  have he : (((i : Int) + 1) == (n : Int)) = false := by simp; omega
  obtain ⟨h1, h2, h3, h4, h5, h6, h7, h8⟩ : (c == 34) = false ∧ (c == 92) = false ∧ (c == 47) = false ∧ (c == 98) = false ∧ (c == 102) = false ∧ (c == 110) = false ∧ (c == 114) = false ∧ (c == 116) = false := by
    have := HS.out
    simp [simple] at this
    simp
    omega
  go_enter Trym.func25, Trym.ntmps25
  go_wp2
  go_ret2
  exact ⟨ans_of (k := 0) (by rw [HD.out]; simp at h9; simp [esc, HS.out, h9]) (by omega), rfl⟩

theorem esc_u (b off n cap i : Nat) (l : List Int) (hl : l.length = n) (hi : i + 1 < n) (hm : n ≤ 1048576) (w : World) (hc : Hid (Bytes w b off l)) (hc1 : w.cell? ⟨b, off + (i + 1), none⟩ = some (.int .u8 117))
    (HD : Hid (l.drop (i + 1) = 117 :: l.drop (i + 1 + 1))) :
    Calls Trym.prog 25 #[.slice (some ⟨b, off, none⟩) n cap, .int .i64 i] w fun e w' => e = ans l i ∧ w' = w := by
  have he : (((i : Int) + 1) == (n : Int)) = false := by simp; omega
  go_enter Trym.func25, Trym.ntmps25
  go_wp2
  go_loop [1, 30] (fun s r => ∃ k : Nat, k ≤ 4 ∧ i + 1 + k < n ∧ s = .int .i64 ((i : Int) + 1 + (k : Int)) ∧ r = .int .i64 (k : Int) ∧ Hid (run 4 (l.drop (i + 2)) = k + run (4 - k) (l.drop (i + 2 + k)))) (fun s r => (4 - intOf r).toNat)
  case atStart => exact ⟨0, by omega, by omega, by go_num, rfl, by show _ = _; simp⟩
  case round =>
    obtain ⟨k, hk, hkn, rfl, rfl, HR⟩ := hrel
    by_cases h4 : k < 4
    · by_cases hend : i + 1 + k + 1 = n
      · have hE : (((i : Int) + 1 + (k : Int) + 1) == (n : Int)) = true := by simp; omega
        go_wp2
        go_ret2
        exact ⟨ans_of (k := k + 1) (by
          have h1 := HR.out
          rw [List.drop_eq_nil_of_le (i := i + 2 + k) (by omega), run_end] at h1
          rw [HD.out]
          exact esc_u_no _ k h1 h4) (by omega), rfl⟩
      · have hE : (((i : Int) + 1 + (k : Int) + 1) == (n : Int)) = false := by simp; omega
        have hck : w.cell? ⟨b, off + (i + 1 + k + 1), none⟩ = some (.int .u8 (l.getD (i + 1 + k + 1) 0)) := hc.out (i + 1 + k + 1) (by omega)
        have hd2 := drop_cons l (i + 2 + k) (by omega)
        rw [show i + 1 + k + 1 = i + 2 + k by omega] at hck
        generalize l.getD (i + 2 + k) 0 = c at hd2 hck
        rw [show i + 2 + k = i + 1 + k + 1 by omega] at hck
        have HC : Hid (l.drop (i + 2 + k) = c :: l.drop (i + 2 + k + 1)) := hd2
        clear hd2
        cases hx : hex c
        · have HX : Hid (hex c = false) := hx
          go_wp2_with (go_at_call 29; refine (isHex_any _ _).mono ?_; rintro e w' ⟨rfl, rfl⟩)
          go_ret2
          exact ⟨ans_of (k := k + 1) (by
            have h1 := HR.out
            rw [HC.out, show 4 - k = (4 - k - 1) + 1 by omega, run_stop _ _ _ HX.out] at h1
            rw [HD.out]
            exact esc_u_no _ k h1 h4) (by omega), rfl⟩
        · have HX : Hid (hex c = true) := hx
          go_wp2_with (go_at_call 29; refine (isHex_any _ _).mono ?_; rintro e w' ⟨rfl, rfl⟩)
          go_round
          case rel => exact ⟨k + 1, by omega, by omega, by go_num, by go_num, (by
            have h1 := HR.out
            rw [HC.out, show 4 - k = (4 - (k + 1)) + 1 by omega, run_step _ _ _ HX.out] at h1
            show _ = _
            rw [show i + 2 + (k + 1) = i + 2 + k + 1 by omega]; omega)⟩
          case measure => simp [intOf]; omega
    · have hk4 : k = 4 := by omega
      subst hk4
      go_wp2
      go_ret2
      exact ⟨ans_of (k := 5) (by
        have h1 := HR.out
        rw [HD.out]
        exact esc_u_yes _ (by simpa [run] using h1)) (by omega), rfl⟩

/-- escapeEnd, at every place of every row of bytes. -/
theorem esc_any (b off n cap i : Nat) (l : List Int) (hl : l.length = n) (hi : i < n) (hm : n ≤ 1048576) (w : World) (hc : Bytes w b off l) :
    Calls Trym.prog 25 #[.slice (some ⟨b, off, none⟩) n cap, .int .i64 i] w fun e w' => e = ans l i ∧ w' = w := by
  by_cases he : i + 1 = n
  · exact esc_end b off n cap i l hl he hm w
  · have hc1 : w.cell? ⟨b, off + (i + 1), none⟩ = some (.int .u8 (l.getD (i + 1) 0)) := hc (i + 1) (by omega)
    have hd := drop_cons l (i + 1) (by omega)
    generalize l.getD (i + 1) 0 = c at hd hc1
    cases hs : simple c
    · by_cases h9 : c = 117
      · subst h9
        exact esc_u b off n cap i l hl (by omega) hm w hc hc1 hd
      · exact esc_bad b off n cap i l c hl (by omega) hm w hc1 hd hs (by simpa using h9)
    · exact esc_simple b off n cap i l c hl (by omega) hm w hc1 hd hs

/-- ZZescapeEnd. -/
theorem zz_any (b off n cap i : Nat) (l : List Int) (hl : l.length = n) (hi : i < n) (hm : n ≤ 1048576) (w : World) (hc : Bytes w b off l) :
    Calls Trym.prog 18 #[.slice (some ⟨b, off, none⟩) n cap, .int .i64 i] w fun e w' => e = ans l i ∧ w' = w := by
  have HC : Hid (Bytes w b off l) := hc
  clear hc
  go_enter Trym.func18, Trym.ntmps18
  go_wp2_with (go_at_call 25; refine (esc_any b off n cap i l hl hi hm _ HC.out).mono ?_; rintro e w' ⟨rfl, rfl⟩; unfold ans)
  go_ret2
  exact ⟨rfl, rfl⟩

end Go.Proofs.Qxb6600720aMods.EscW
