/-
  THE WALK of FnIntegerSizeCountsDigitPairs (function 8).
-/
import Derived.Test.Qxb6600720aModsIntWalks
namespace Go.Proofs.Qxb6600720aMods.PairsW
open Go.RowKit IntP IntW
set_option linter.unusedVariables false

theorem zero_case (neg : Bool) (w : World) :
    Calls Trym.prog 8 #[.int .u64 0, .bool neg] w fun e w' => e = .returned (.bool true) ∧ Grown w w' := by
  go_enter Trym.func8, Trym.ntmps8
  go_wp2_with (go_at_call 23; refine (zero_any _ _).mono ?_; rintro e w' ⟨rfl, hg⟩)
  go_ret
  exact ⟨rfl, by assumption⟩

/-- The sign of the digit of power k. -/
def dig (u k : Nat) : Value := .int .u8 (48 + ((up u k % 10 : Nat) : Int))
/-- An array of twenty bytes, those at places p < n being the digits of power f p. -/
structure Filled (u : Nat) (f : Nat → Nat) (n : Nat) (C : Array Value) : Prop where
  size : C.size = 20
  at' : ∀ p, p < n → C[p]? = some (dig u (f p))

theorem Filled.set {u : Nat} {f : Nat → Nat} {n : Nat} {C : Array Value} (h : Filled u f n C) (hn : n < 20) {v : Value} (hv : v = dig u (f n)) : Filled u f (n + 1) (C.setIfInBounds n v) := by
  refine ⟨by simp [h.size], fun p hp => ?_⟩
  have hs := h.size
  by_cases e : p = n
  · subst e; subst hv; simp [hs, hn]
  · rw [Array.getElem?_setIfInBounds_ne (by omega)]; exact h.at' p (by omega)

theorem Filled.some {u : Nat} {f : Nat → Nat} {n : Nat} {C : Array Value} (h : Filled u f n C) (i : Nat) (hi : i < 20) : ∃ v, C[i]? = some v := by
  have hs := h.size
  exact ⟨C[i], by simp [hs, hi]⟩

theorem zz_S (u t h : Nat) (neg : Bool) (S : Int) (HS : Hid (S = sz neg h t)) (hu2 : u < 18446744073709551616) (hd : Digs u t h) (w : World) :
    Calls Trym.prog 23 #[.int .u64 u, .bool neg] w fun e w' => e = .returned (.int .i64 S) ∧ Grown w w' := by
  rw [HS.out]; exact zz_any u t h neg hu2 hd w

theorem start0 (u : Nat) (f : Nat → Nat) (C : Array Value) (h : C.size = 20) : Filled u f 0 C := ⟨h, fun p hp => absurd hp (by omega)⟩
theorem start1 (u : Nat) (f : Nat → Nat) (C : Array Value) (h : C.size = 20) (h0 : C[0]? = some (dig u (f 0))) : Filled u f 1 C := ⟨h, fun p hp => by
  have e : p = 0 := by omega
  subst e; exact h0⟩

theorem dig_zero {u h t : Nat} (hd : Digs u t h) : dig u (h + 1) = .int .u8 48 := by
  have h1 := up_succ u h
  have h2 := hd.high
  have h3 : up u (h + 1) = 0 := by omega
  simp [dig, h3]

set_option maxHeartbeats 800000 in
theorem pos_case (u t h L0 g : Nat) (neg : Bool) (S : Int) (HS : Hid (S = sz neg h t)) (hL : L0 = 0 ∨ L0 = 1) (hg : L0 + h + 1 = 2 * g) (hu : 0 < u) (hu2 : u < 18446744073709551616) (hd : Digs u t h) (w : World) :
    Calls Trym.prog 8 #[.int .u64 u, .bool neg] w fun e w' => e = .returned (.bool true) ∧ Grown w w' := by
  have h19 := hd.h19
  have HG : Hid (L0 + h + 1 = 2 * g) := hg
  have HL : Hid (L0 = 0 ∨ L0 = 1) := hL
  have HL1 : L0 ≤ 1 := by omega
  have hg1' : 1 ≤ g := by omega
  have hg10 : g ≤ 10 := by omega
  have hLh : L0 + h + 1 ≤ 20 := by omega
  clear hg hL
  have hne : ((u : Int) == 0) = false := by simp; omega
  go_enter Trym.func8, Trym.ntmps8
  go_wp2_with (refine (zz_S u t h neg S HS hu2 hd _).mono ?_; rintro e w1 ⟨rfl, hg1⟩)
  go_loopw [7, 8] (fun d s wr => ∃ k v : Nat, ∃ C : Array Value, k ≤ h + 1 ∧ v < 18446744073709551616 ∧ d = .int .i64 k ∧ s = .int .u64 v ∧ Hid (v = up u k) ∧ Filled u (fun p => p) k C ∧ wr = w1.alloc (.cells C 35)) (fun d s wr => (intOf s).toNat)
  case atStart => exact ⟨0, u, _, Nat.zero_le _, hu2, rfl, rfl, (up_zero u).symm, start0 _ _ _ rfl, rfl⟩
  case round =>
    obtain ⟨k, v, C, hk, hv, rfl, rfl, HV, hF, rfl⟩ := hrel
    by_cases hlt : k ≤ h
    · have hv0 : 0 < v := by have := hd.pos; have := up_mono u hlt; have := HV.out; omega
      obtain ⟨c0, hc0⟩ := hF.some k (by omega)
      go_wp2
      go_roundw
      case rel => exact ⟨k + 1, v / 10, _, by omega, by omega, by go_num, by go_num, (by rw [HV.out]; exact (up_succ u k).symm), hF.set (by omega) (by show _ = dig u k; unfold dig; rw [← HV.out]; simp), rfl⟩
      case measure => simp [intOf]; omega
    · have hkh : k = h + 1 := by omega
      subst hkh
      have hv0 : v = 0 := by have := HV.out; rw [up_succ] at this; have := hd.high; omega
      clear HV
      subst hv0
      have hp : ((((h : Int) + 1) % 2) == 1) = (L0 == 1) := by
        have := HG.out
        rcases HL.out with e | e
        · subst e; simp; omega
        · subst e; simp; omega
      have HP : Hid (((((h : Int) + 1) % 2) == 1) = (L0 == 1)) := hp
      clear hp
      rcases HL.out with e | e
      · have hp : ((((h : Int) + 1) % 2) == 1) = false := by rw [HP.out, e]; rfl
        have HE : Hid (L0 = 0) := e
        clear e
        go_wp2
        go_loopw [10, 11] (fun l j wr => ∃ i : Nat, ∃ D : Array Value, i ≤ h + 1 ∧ l = .int .i64 ((L0 : Int) + (i : Int)) ∧ j = .int .i64 ((h : Int) - (i : Int)) ∧ Filled u (fun p => h + L0 - p) (L0 + i) D ∧ wr = (w1.alloc (.cells C 35)).alloc (.cells D 35)) (fun l j wr => (intOf j + 1).toNat)
        case atStart => exact ⟨0, _, by omega, by have := HE.out; go_num, by go_num, by rw [HE.out]; exact start0 _ _ _ rfl, rfl⟩
        case round =>
          obtain ⟨i, D, hi, rfl, rfl, hD, rfl⟩ := hrel
          by_cases hlt2 : i ≤ h
          · obtain ⟨d0, hd0⟩ := hD.some (L0 + i) (by omega)
            have hc : C[h - i]? = some (.int .u8 (48 + ((up u (h - i) % 10 : Nat) : Int))) := hF.at' (h - i) (by omega)
            go_wp2
            go_roundw
            case rel => exact ⟨i + 1, _, by omega, by go_num, by go_num, hD.set (by omega) (by show _ = dig u _; unfold dig; rw [show h + L0 - (L0 + i) = h - i by omega]; simp), rfl⟩
            case measure => simp [intOf]; omega
          · have hih : i = h + 1 := by omega
            subst hih
            have hgq : 0 < ((L0 : Int) + ((h : Int) + 1)) / 2 := by have := HG.out; omega
            go_wp2
            go_loop [13] (fun f => f = .int .i64 0) (fun _ => 0)
            case atStart => rfl
            case round =>
              subst hrel
              have hx1 : 1 ≤ up u h % 10 := by have := hd.pos; have := hd.high; omega
              generalize hx : up u h % 10 = x at hx1
              have HX : Hid (up u h % 10 = x) := hx
              clear hx
              have hs0 : D[0]? = some (.int .u8 (48 + (x : Int))) := by
                have := hD.at' 0 (by omega)
                rw [this]; show some (dig u (h + L0 - 0)) = _; rw [HE.out, ← HX.out]; rfl
              have hnx : (((48 : Int) + (x : Int)) == 48) = false := by simp; omega
              go_wp2
              clear hs0 hnx
              go_loop [14] (fun l => ∃ m j : Nat, 2 * j ≤ t ∧ m ≤ g ∧ 1 ≤ m ∧ Hid (m + j = g) ∧ l = .int .i64 (m : Int)) (fun l => (intOf l).toNat)
              case atStart => exact ⟨g, 0, by omega, Nat.le_refl _, hg1', rfl, by have := HG.out; go_num⟩
              case round =>
                obtain ⟨m, j, hj, hmg, hm1, HM, rfl⟩ := hrel
                have c1 : D[2 * m - 2]? = some (.int .u8 (48 + ((up u (2 * j + 1) % 10 : Nat) : Int))) := by
                  have := hD.at' (2 * m - 2) (by have := HG.out; omega)
                  rw [this, show h + L0 - (2 * m - 2) = 2 * j + 1 by have := HG.out; have := HM.out; omega]; rfl
                have c2 : D[2 * m - 1]? = some (.int .u8 (48 + ((up u (2 * j) % 10 : Nat) : Int))) := by
                  have := hD.at' (2 * m - 1) (by have := HG.out; omega)
                  rw [this, show h + L0 - (2 * m - 1) = 2 * j by have := HG.out; have := HM.out; omega]; rfl
                generalize ha : up u (2 * j + 1) % 10 = a at c1
                generalize hb : up u (2 * j) % 10 = b at c2
                have HA : Hid (up u (2 * j + 1) % 10 = a) := ha
                have HB : Hid (up u (2 * j) % 10 = b) := hb
                clear ha hb
                by_cases hjt : 2 * j + 1 < t
                · have ea : a = 0 := by rw [← HA.out]; exact hd.zeros _ hjt
                  have eb : b = 0 := by rw [← HB.out]; exact hd.zeros _ (by omega)
                  clear HA HB
                  subst ea eb
                  have hth := hd.th
                  have hm2 : 2 ≤ m := by have := HG.out; have := HM.out; omega
                  go_wp2
                  go_round
                  case rel => exact ⟨m - 1, j + 1, by omega, by omega, by omega, (by have := HM.out; show _ = _; omega), by go_num⟩
                  case measure => simp [intOf]; omega
                · have hab : 1 ≤ a ∨ (a = 0 ∧ 1 ≤ b) := by
                    have hlow := hd.low
                    by_cases e : t = 2 * j
                    · have := HB.out; rw [← e] at this; omega
                    · have e2 : t = 2 * j + 1 := by omega
                      have := HA.out; rw [← e2] at this; omega
                  have HF : Hid (S = (m : Int) + 1 + (if neg then 1 else 0)) := by
                    have h1 := HS.out; have h2 := HM.out; have h3 := HG.out
                    show _ = _
                    rw [h1]; unfold sz; cases neg
                    · simp; omega
                    · simp; omega
                  clear HA HB
                  rcases hab with ha | ⟨rfl, hb⟩
                  · have hna : (((48 : Int) + (a : Int)) == 48) = false := by simp; omega
                    cases neg
                    · have hfin : S = (m : Int) + 1 := by simpa using HF.out
                      go_wp2
                      go_ret
                      exact ⟨rfl, (hg1.alloc _ _).alloc _ _⟩
                    · have hfin : S = (m : Int) + 1 + 1 := by simpa using HF.out
                      go_wp2
                      go_ret
                      exact ⟨rfl, (hg1.alloc _ _).alloc _ _⟩
                  · have hnb : (((48 : Int) + (b : Int)) == 48) = false := by simp; omega
                    cases neg
                    · have hfin : S = (m : Int) + 1 := by simpa using HF.out
                      go_wp2
                      go_ret
                      exact ⟨rfl, (hg1.alloc _ _).alloc _ _⟩
                    · have hfin : S = (m : Int) + 1 + 1 := by simpa using HF.out
                      go_wp2
                      go_ret
                      exact ⟨rfl, (hg1.alloc _ _).alloc _ _⟩
      · have hp : ((((h : Int) + 1) % 2) == 1) = true := by rw [HP.out, e]; rfl
        have HE : Hid (L0 = 1) := e
        clear e
        go_wp2
        go_loopw [10, 11] (fun l j wr => ∃ i : Nat, ∃ D : Array Value, i ≤ h + 1 ∧ l = .int .i64 ((L0 : Int) + (i : Int)) ∧ j = .int .i64 ((h : Int) - (i : Int)) ∧ Filled u (fun p => h + L0 - p) (L0 + i) D ∧ wr = (w1.alloc (.cells C 35)).alloc (.cells D 35)) (fun l j wr => (intOf j + 1).toNat)
        case atStart => exact ⟨0, _, by omega, by have := HE.out; go_num, by go_num, by rw [HE.out]; exact start1 _ _ _ rfl (by simp [dig_zero hd]), rfl⟩
        case round =>
          obtain ⟨i, D, hi, rfl, rfl, hD, rfl⟩ := hrel
          by_cases hlt2 : i ≤ h
          · obtain ⟨d0, hd0⟩ := hD.some (L0 + i) (by omega)
            have hc : C[h - i]? = some (.int .u8 (48 + ((up u (h - i) % 10 : Nat) : Int))) := hF.at' (h - i) (by omega)
            go_wp2
            go_roundw
            case rel => exact ⟨i + 1, _, by omega, by go_num, by go_num, hD.set (by omega) (by show _ = dig u _; unfold dig; rw [show h + L0 - (L0 + i) = h - i by omega]; simp), rfl⟩
            case measure => simp [intOf]; omega
          · have hih : i = h + 1 := by omega
            subst hih
            have hgq : 0 < ((L0 : Int) + ((h : Int) + 1)) / 2 := by have := HG.out; omega
            go_wp2
            go_loop [13] (fun f => f = .int .i64 0) (fun _ => 0)
            case atStart => rfl
            case round =>
              subst hrel
              have hx1 : 1 ≤ up u h % 10 := by have := hd.pos; have := hd.high; omega
              generalize hx : up u h % 10 = x at hx1
              have HX : Hid (up u h % 10 = x) := hx
              clear hx
              have hs0 : D[0]? = some (.int .u8 48) := by
                have := hD.at' 0 (by omega)
                rw [this]; show some (dig u (h + L0 - 0)) = _; rw [HE.out]; exact congrArg some (dig_zero hd)
              have hs1 : D[1]? = some (.int .u8 (48 + (x : Int))) := by
                have := hD.at' 1 (by have := HE.out; omega)
                rw [this]; show some (dig u (h + L0 - 1)) = _; rw [HE.out, ← HX.out]; rfl
              have hnx : (((48 : Int) + (x : Int)) == 48) = false := by simp; omega
              go_wp2
              clear hs0 hs1 hnx
              go_loop [14] (fun l => ∃ m j : Nat, 2 * j ≤ t ∧ m ≤ g ∧ 1 ≤ m ∧ Hid (m + j = g) ∧ l = .int .i64 (m : Int)) (fun l => (intOf l).toNat)
              case atStart => exact ⟨g, 0, by omega, Nat.le_refl _, hg1', rfl, by have := HG.out; go_num⟩
              case round =>
                obtain ⟨m, j, hj, hmg, hm1, HM, rfl⟩ := hrel
                have c1 : D[2 * m - 2]? = some (.int .u8 (48 + ((up u (2 * j + 1) % 10 : Nat) : Int))) := by
                  have := hD.at' (2 * m - 2) (by have := HG.out; omega)
                  rw [this, show h + L0 - (2 * m - 2) = 2 * j + 1 by have := HG.out; have := HM.out; omega]; rfl
                have c2 : D[2 * m - 1]? = some (.int .u8 (48 + ((up u (2 * j) % 10 : Nat) : Int))) := by
                  have := hD.at' (2 * m - 1) (by have := HG.out; omega)
                  rw [this, show h + L0 - (2 * m - 1) = 2 * j by have := HG.out; have := HM.out; omega]; rfl
                generalize ha : up u (2 * j + 1) % 10 = a at c1
                generalize hb : up u (2 * j) % 10 = b at c2
                have HA : Hid (up u (2 * j + 1) % 10 = a) := ha
                have HB : Hid (up u (2 * j) % 10 = b) := hb
                clear ha hb
                by_cases hjt : 2 * j + 1 < t
                · have ea : a = 0 := by rw [← HA.out]; exact hd.zeros _ hjt
                  have eb : b = 0 := by rw [← HB.out]; exact hd.zeros _ (by omega)
                  clear HA HB
                  subst ea eb
                  have hth := hd.th
                  have hm2 : 2 ≤ m := by have := HG.out; have := HM.out; omega
                  go_wp2
                  go_round
                  case rel => exact ⟨m - 1, j + 1, by omega, by omega, by omega, (by have := HM.out; show _ = _; omega), by go_num⟩
                  case measure => simp [intOf]; omega
                · have hab : 1 ≤ a ∨ (a = 0 ∧ 1 ≤ b) := by
                    have hlow := hd.low
                    by_cases e : t = 2 * j
                    · have := HB.out; rw [← e] at this; omega
                    · have e2 : t = 2 * j + 1 := by omega
                      have := HA.out; rw [← e2] at this; omega
                  have HF : Hid (S = (m : Int) + 1 + (if neg then 1 else 0)) := by
                    have h1 := HS.out; have h2 := HM.out; have h3 := HG.out
                    show _ = _
                    rw [h1]; unfold sz; cases neg
                    · simp; omega
                    · simp; omega
                  clear HA HB
                  rcases hab with ha | ⟨rfl, hb⟩
                  · have hna : (((48 : Int) + (a : Int)) == 48) = false := by simp; omega
                    cases neg
                    · have hfin : S = (m : Int) + 1 := by simpa using HF.out
                      go_wp2
                      go_ret
                      exact ⟨rfl, (hg1.alloc _ _).alloc _ _⟩
                    · have hfin : S = (m : Int) + 1 + 1 := by simpa using HF.out
                      go_wp2
                      go_ret
                      exact ⟨rfl, (hg1.alloc _ _).alloc _ _⟩
                  · have hnb : (((48 : Int) + (b : Int)) == 48) = false := by simp; omega
                    cases neg
                    · have hfin : S = (m : Int) + 1 := by simpa using HF.out
                      go_wp2
                      go_ret
                      exact ⟨rfl, (hg1.alloc _ _).alloc _ _⟩
                    · have hfin : S = (m : Int) + 1 + 1 := by simpa using HF.out
                      go_wp2
                      go_ret
                      exact ⟨rfl, (hg1.alloc _ _).alloc _ _⟩

theorem walk (a0 : Int) (a1 : Bool) (w0 : (Lit.int .u64 a0).wf = true) (w : World) :
    Calls Trym.prog 8 #[.int .u64 a0, .bool a1] w fun e w' => e = .returned (.bool true) ∧ Grown w w' := by
  obtain ⟨lo0, hi0⟩ : 0 ≤ a0 ∧ a0 < 18446744073709551616 := by
    simp [Lit.wf, IntKind.min, IntKind.max, IntKind.signed, IntKind.bits] at w0
    omega
  obtain ⟨u, rfl⟩ := Int.eq_ofNat_of_zero_le lo0
  by_cases hu : u = 0
  · subst hu; exact zero_case a1 w
  · obtain ⟨t, h, hd⟩ := digs u (by omega) (by omega)
    have th := hd.th
    have h19 := hd.h19
    by_cases e : h % 2 = 1
    · exact pos_case u t h 0 ((h + 1) / 2) a1 (sz a1 h t) rfl (.inl rfl) (by omega) (by omega) (by omega) hd w
    · exact pos_case u t h 1 ((h + 2) / 2) a1 (sz a1 h t) rfl (.inr rfl) (by omega) (by omega) (by omega) hd w

end Go.Proofs.Qxb6600720aMods.PairsW
