/-
  THE WALKS of decimal.size, integerSize, ZZintegerSize (functions 30, 28, 23).
-/
import Derived.Test.Qxb6600720aModsRows
import Derived.Test.Qxb6600720aModsIntPlain
import Derived.WalkKit
import Derived.ProofKit
namespace Go.Proofs.Qxb6600720aMods.IntW
open Go.RowKit IntP
set_option linter.unusedVariables false

theorem ret_int {k : IntKind} {a b : Int} (h : a = b) : Ending.returned (.int k a) = .returned (.int k b) := by rw [h]

theorem grown_trans {a b c : World} (h : Grown a b) (k : Grown b c) : Grown a c :=
  ⟨World.keptBut_trans h.1 k.1, fun x => (k.2.1 x).trans (h.2.1 x), Nat.le_trans h.2.2 k.2.2⟩

/-- What a number takes, by its powers. -/
def sz (neg : Bool) (h t : Nat) : Int := (h : Int) / 2 - (t : Int) / 2 + 2 + (if neg then 1 else 0)

theorem size_any (neg : Bool) (hi lo : Nat) (h1 : lo ≤ hi) (h2 : hi ≤ 19) (w : World) :
    Calls Trym.prog 30 #[.agg #[.bool neg, .bool false, .int .i64 hi, .int .i64 lo, .int .i64 0, .int .i64 0]] w fun e w' =>
      e = .returned (.int .i64 (sz neg hi lo)) ∧ Grown w w' := by
  cases neg
  · go_enter Trym.func30, Trym.ntmps30
    go_wp2
    go_ret
    exact ⟨ret_int (by simp [sz]; omega), (Grown.refl _).alloc _ _⟩
  · go_enter Trym.func30, Trym.ntmps30
    go_wp2
    go_ret
    exact ⟨ret_int (by simp [sz]; omega), (Grown.refl _).alloc _ _⟩

theorem zero_any (neg : Bool) (w : World) :
    Calls Trym.prog 23 #[.int .u64 0, .bool neg] w fun e w' => e = .returned (.int .i64 1) ∧ Grown w w' := by
  go_enter Trym.func23, Trym.ntmps23
  go_wp2
  go_ret
  exact ⟨rfl, (Grown.refl _).alloc _ _⟩

theorem pos_any (u t h : Nat) (neg : Bool) (hu2 : u < 18446744073709551616) (hd : Digs u t h) (w : World) :
    Calls Trym.prog 28 #[.int .u64 u, .bool neg] w fun e w' => e = .returned (.int .i64 (sz neg h t)) ∧ Grown w w' := by
  have hpos : 0 < u := by have := hd.pos; have := up_mono u (Nat.zero_le h); rw [up_zero] at this; omega
  have hne : ((u : Int) == 0) = false := by simp; omega
  have th := hd.th
  have h19 := hd.h19
  go_enter Trym.func28, Trym.ntmps28
  go_wp2
  go_loopw [0] (fun s wr => ∃ k v : Nat, k ≤ t ∧ v < 18446744073709551616 ∧ 0 < v ∧ s = .int .u64 v ∧ Hid (v = up u k) ∧ wr = w.alloc (.cells #[.bool neg, .bool false, .int .i64 0, .int .i64 k, .int .i64 0, .int .i64 0] 42)) (fun s wr => (intOf s).toNat)
  case atStart => exact ⟨0, u, Nat.zero_le _, hu2, hpos, rfl, (up_zero u).symm, rfl⟩
  case round =>
    obtain ⟨k, v, hk, hv, hv0, rfl, HV, rfl⟩ := hrel
    by_cases hz : v % 10 = 0
    · have hz' : (((v : Int) % 10) == 0) = true := by simp; omega
      have hkt : k < t := by
        by_cases e : k = t
        · subst e; exact absurd (HV.out ▸ hz) hd.low
        · omega
      go_wp2
      go_roundw
      case rel => exact ⟨k + 1, v / 10, hkt, by omega, by omega, by go_num, (by rw [HV.out]; exact (up_succ u k).symm), by simp⟩
      case measure => simp [intOf]; omega
    · have hz' : (((v : Int) % 10) == 0) = false := by simp; omega
      have hkt : k = t := by
        by_cases e : k = t
        · exact e
        · exact absurd (HV.out ▸ hd.zeros k (by omega)) hz
      subst hkt
      go_wp2
      go_loopw [0] (fun s wr => ∃ j v : Nat, k ≤ j ∧ j ≤ h ∧ v < 18446744073709551616 ∧ 0 < v ∧ s = .int .u64 v ∧ Hid (v = up u j) ∧ wr = w.alloc (.cells #[.bool neg, .bool false, .int .i64 j, .int .i64 k, .int .i64 0, .int .i64 0] 42)) (fun s wr => (intOf s).toNat)
      case atStart => exact ⟨k, v, Nat.le_refl _, th, hv, hv0, rfl, HV, rfl⟩
      case round =>
        clear HV hz hz' hv hv0
        obtain ⟨j, v', hj, hjh, hv, hv0, rfl, HV, rfl⟩ := hrel
        by_cases hlt : j < h
        · have hten : 10 ≤ v' := by rw [HV.out]; exact hd.tens j hlt
          go_wp2
          go_roundw
          case rel => exact ⟨j + 1, v' / 10, by omega, hlt, by omega, by omega, by go_num, (by rw [HV.out]; exact (up_succ u j).symm), by simp⟩
          case measure => simp [intOf]; omega
        · have hjh' : j = h := by omega
          subst hjh'
          have hten : v' < 10 := by rw [HV.out]; exact hd.high
          go_wp2_with (go_at_call 30; refine (size_any neg j k th h19 _).mono ?_; rintro e w' ⟨rfl, hg⟩)
          go_ret
          exact ⟨rfl, grown_trans ((Grown.refl _).alloc _ _) hg⟩

theorem zz_any (u t h : Nat) (neg : Bool) (hu2 : u < 18446744073709551616) (hd : Digs u t h) (w : World) :
    Calls Trym.prog 23 #[.int .u64 u, .bool neg] w fun e w' => e = .returned (.int .i64 (sz neg h t)) ∧ Grown w w' := by
  go_enter Trym.func23, Trym.ntmps23
  go_wp2_with (go_at_call 28; refine (pos_any u t h neg hu2 hd _).mono ?_; rintro e w' ⟨rfl, hg⟩)
  go_ret
  exact ⟨rfl, hg⟩

end Go.Proofs.Qxb6600720aMods.IntW
