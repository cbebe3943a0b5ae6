/-
  THE WALK of FnIntegerSizeSignCostsOneByteAndRange (function 10).
-/
import Derived.Test.Qxb6600720aModsIntWalks
namespace Go.Proofs.Qxb6600720aMods.SignW
open Go.RowKit IntP IntW
set_option linter.unusedVariables false

theorem zz_both (u t h : Nat) (S : Int) (hS : S = sz false h t) (hu2 : u < 18446744073709551616) (hd : Digs u t h) (w : World) :
    Calls Trym.prog 23 #[.int .u64 u, .bool false] w fun e w' => e = .returned (.int .i64 S) ∧ Grown w w' := by
  subst hS; exact zz_any u t h false hu2 hd w
theorem zz_neg (u t h : Nat) (S : Int) (hS : S = sz false h t) (hu2 : u < 18446744073709551616) (hd : Digs u t h) (w : World) :
    Calls Trym.prog 23 #[.int .u64 u, .bool true] w fun e w' => e = .returned (.int .i64 (S + 1)) ∧ Grown w w' := by
  have e : S + 1 = sz true h t := by subst hS; simp [sz]
  rw [e]; exact zz_any u t h true hu2 hd w

theorem ret_bool {a b : Bool} (h : a = b) : Ending.returned (.bool a) = .returned (.bool b) := by rw [h]

theorem zero_case (w : World) :
    Calls Trym.prog 10 #[.int .u64 0] w fun e w' => e = .returned (.bool true) ∧ Grown w w' := by
  go_enter Trym.func10, Trym.ntmps10
  go_wp2_with (go_at_call 23; refine (zero_any _ _).mono ?_; rintro e w' ⟨rfl, hg⟩)
  go_ret
  exact ⟨rfl, grown_trans (by assumption) (by assumption)⟩

theorem pos_case (u t h : Nat) (S : Int) (HS : Hid (S = sz false h t)) (s1 : 2 ≤ S) (s2 : S ≤ 11) (s3 : S ≤ ((h : Int) + 2) / 2 + 1) (hu : 0 < u) (hu2 : u < 18446744073709551616) (hd : Digs u t h) (w : World) :
    Calls Trym.prog 10 #[.int .u64 u] w fun e w' => e = .returned (.bool true) ∧ Grown w w' := by
  have h19 := hd.h19
  have hne : ((u : Int) == 0) = false := by simp; omega
  have d1 : decide (S < 2) = false := decide_eq_false (by omega)
  have d2 : decide (11 < S) = false := decide_eq_false (by omega)
  go_enter Trym.func10, Trym.ntmps10
  go_wp2_with (first | (refine (zz_both u t h S HS.out hu2 hd _).mono ?_; rintro e w1 ⟨rfl, hg1⟩) | (refine (zz_neg u t h S HS.out hu2 hd _).mono ?_; rintro e w2 ⟨rfl, hg2⟩))
  go_loop [5, 6] (fun d s => ∃ k v : Nat, k ≤ h + 1 ∧ v < 18446744073709551616 ∧ d = .int .i64 k ∧ s = .int .u64 v ∧ Hid (v = up u k)) (fun d s => (intOf s).toNat)
  case atStart => exact ⟨0, u, Nat.zero_le _, hu2, rfl, rfl, (up_zero u).symm⟩
  case round =>
    obtain ⟨k, v, hk, hv, rfl, rfl, HV⟩ := hrel
    by_cases hlt : k ≤ h
    · have hv0 : 0 < v := by have := hd.pos; have := up_mono u hlt; have := HV.out; omega
      go_wp2
      go_round
      case rel => exact ⟨k + 1, v / 10, by omega, by omega, by go_num, by go_num, (by rw [HV.out]; exact (up_succ u k).symm)⟩
      case measure => simp [intOf]; omega
    · have hkh : k = h + 1 := by omega
      subst hkh
      have hv0 : v = 0 := by have := HV.out; rw [up_succ] at this; have := hd.high; omega
      clear HV
      subst hv0
      have hfin : decide (S ≤ ((h : Int) + 1 + 1) / 2 + 1) = true := decide_eq_true (by omega)
      go_wp2
      go_ret
      exact ⟨rfl, grown_trans (by assumption) (by assumption)⟩

theorem walk (a0 : Int) (w0 : (Lit.int .u64 a0).wf = true) (w : World) :
    Calls Trym.prog 10 #[.int .u64 a0] w fun e w' => e = .returned (.bool true) ∧ Grown w w' := by
  obtain ⟨lo0, hi0⟩ : 0 ≤ a0 ∧ a0 < 18446744073709551616 := by
    simp [Lit.wf, IntKind.min, IntKind.max, IntKind.signed, IntKind.bits] at w0
    omega
  obtain ⟨u, rfl⟩ := Int.eq_ofNat_of_zero_le lo0
  by_cases hu : u = 0
  · subst hu; exact zero_case w
  · obtain ⟨t, h, hd⟩ := digs u (by omega) (by omega)
    have th := hd.th
    have h19 := hd.h19
    exact pos_case u t h (sz false h t) rfl (by simp [sz]; omega) (by simp [sz]; omega) (by simp [sz]; omega) (by omega) (by omega) hd w

end Go.Proofs.Qxb6600720aMods.SignW
