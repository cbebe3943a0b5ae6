/-
  THE WALKS of the guards: zzBytes_.. (25, 28), zzOver, zzShape (12, 13).
-/
import Derived.Test.Qxb6000857aModsCopy
namespace Go.Proofs.Qxb6000857aMods.GuardW
open Go.RowKit MapM AddW GivW NewW CopyW
set_option linter.unusedVariables false

/-- The call answers a bool and turns nothing; where it says yes, p holds. -/
def Says (p : Prop) (w : World) (e : Ending) (w' : World) : Prop := ∃ b, e = .returned (.bool b) ∧ w = w' ∧ (b = true → p)
theorem Says.no {p : Prop} {w w' : World} {e : Ending} (h : e = .returned (.bool false)) (hw : w = w') : Says p w e w' := ⟨false, h, hw, fun h => by cases h⟩
theorem Says.yes {p : Prop} {w w' : World} {e : Ending} (h : e = .returned (.bool true)) (hw : w = w') (hp : p) : Says p w e w' := ⟨true, h, hw, fun _ => hp⟩
/-- What zzBytes holds to. -/
def BytesOK (C N2 N3 N4 N5 : Nat) (RL : Nat → Nat) : Prop := C ≤ 1048576 ∧ N2 ≤ 1048576 ∧ N3 ≤ 1048576 ∧ N4 ≤ 1048576 ∧ N5 ≤ 1048576 ∧ ∀ c, c < C → RL c ≤ 1048576

theorem bytes6_any (n : Int) (ea ma ca pa ba : Option Addr) (C N2 N3 N4 N5 ec c2 c3 c4 c5 : Nat) (RA : Nat → Option Addr) (RL RC : Nat → Nat) (w : World) (hC : C ≤ 9223372036854775807) (h2 : N2 ≤ 9223372036854775807) (h3 : N3 ≤ 9223372036854775807) (h4 : N4 ≤ 9223372036854775807) (h5 : N5 ≤ 9223372036854775807)
    (hs : Sl w ea C (fun c => .slice (RA c) (RL c) (RC c))) (hr : ∀ c, c < C → RL c ≤ 9223372036854775807) :
    Calls Trym.prog 25 #[.int .i64 n, .slice ea C ec, .slice ma N2 c2, .slice ca N3 c3, .slice pa N4 c4, .slice ba N5 c5] w fun e w' => Says (BytesOK C N2 N3 N4 N5 RL) w e w' := by
  have HS := hide hs
  have HR := hide hr
  clear hs hr
  by_cases hC1 : C ≤ 1048576
  · go_enter Trym.func25, Trym.ntmps25
    go_wp2
    go_loop [13, 14] (fun t i => ∃ k s : Nat, k ≤ C ∧ t = .int .i64 (s : Int) ∧ i = .int .i64 (k : Int) ∧ s ≤ 1048576 ∧ Hid (∀ c, c < k → RL c ≤ 1048576)) (fun _ i => (C - intOf i).toNat)
    case atStart => exact ⟨0, C, by omega, by go_num, rfl, by omega, fun c hc => absurd hc (by omega)⟩
    case round =>
      obtain ⟨k, s, hk, rfl, rfl, hs1, HL⟩ := hrel
      by_cases hlt : k < C
      · obtain ⟨b, off, rfl, hc0⟩ := HS.out k hlt
        have hc : w.cell? ⟨b, off + k, none⟩ = some (.slice (RA k) (RL k) (RC k)) := hc0
        clear hc0
        have hrk := HR.out k hlt
        have HLN : Hid (RL k ≤ 1048576 → ∀ c, c < k + 1 → RL c ≤ 1048576) := fun h c hc => by
          by_cases e : c = k
          · subst e; exact h
          · exact HL.out c (by omega)
        generalize RL k = rl at hc hrk HLN
        generalize RA k = ra at hc
        generalize RC k = rc at hc
        by_cases hr1 : rl ≤ 1048576
        · by_cases hs2 : s + rl ≤ 1048576
          · go_wp2
            go_round
            case rel => exact ⟨k + 1, s + rl, by omega, by go_num, by go_num, by omega, HLN.out hr1⟩
            case measure => simp [intOf]; omega
          · go_wp2
            go_ret
            exact Says.no rfl rfl
        · go_wp2
          go_ret
          exact Says.no rfl rfl
      · have hkC : k = C := by omega
        subst hkC
        go_wp2
        all_goals
          go_ret
          first
            | exact Says.no rfl rfl
            | exact Says.yes rfl rfl ⟨by omega, by omega, by omega, by omega, by omega, HL.out⟩
  · go_enter Trym.func25, Trym.ntmps25
    go_wp2
    go_ret
    exact Says.no rfl rfl

theorem bytes7_any (n : Int) (ea ma ca pa ba : Option Addr) (C N2 N3 N4 N5 ec c2 c3 c4 c5 : Nat) (RA : Nat → Option Addr) (RL RC : Nat → Nat) (x6 x7 x8 : Int) (w : World) (hC : C ≤ 9223372036854775807) (h2 : N2 ≤ 9223372036854775807) (h3 : N3 ≤ 9223372036854775807) (h4 : N4 ≤ 9223372036854775807) (h5 : N5 ≤ 9223372036854775807)
    (hs : Sl w ea C (fun c => .slice (RA c) (RL c) (RC c))) (hr : ∀ c, c < C → RL c ≤ 9223372036854775807) :
    Calls Trym.prog 28 #[.int .i64 n, .slice ea C ec, .slice ma N2 c2, .slice ca N3 c3, .slice pa N4 c4, .slice ba N5 c5, .int .i64 x6, .int .i32 x7, .int .i32 x8] w fun e w' => Says (BytesOK C N2 N3 N4 N5 RL) w e w' := by
  have HS := hide hs
  have HR := hide hr
  clear hs hr
  by_cases hC1 : C ≤ 1048576
  · go_enter Trym.func28, Trym.ntmps28
    go_wp2
    go_loop [19, 20] (fun t i => ∃ k s : Nat, k ≤ C ∧ t = .int .i64 (s : Int) ∧ i = .int .i64 (k : Int) ∧ s ≤ 1048576 ∧ Hid (∀ c, c < k → RL c ≤ 1048576)) (fun _ i => (C - intOf i).toNat)
    case atStart => exact ⟨0, C, by omega, by go_num, rfl, by omega, fun c hc => absurd hc (by omega)⟩
    case round =>
      obtain ⟨k, s, hk, rfl, rfl, hs1, HL⟩ := hrel
      by_cases hlt : k < C
      · obtain ⟨b, off, rfl, hc0⟩ := HS.out k hlt
        have hc : w.cell? ⟨b, off + k, none⟩ = some (.slice (RA k) (RL k) (RC k)) := hc0
        clear hc0
        have hrk := HR.out k hlt
        have HLN : Hid (RL k ≤ 1048576 → ∀ c, c < k + 1 → RL c ≤ 1048576) := fun h c hc => by
          by_cases e : c = k
          · subst e; exact h
          · exact HL.out c (by omega)
        generalize RL k = rl at hc hrk HLN
        generalize RA k = ra at hc
        generalize RC k = rc at hc
        by_cases hr1 : rl ≤ 1048576
        · by_cases hs2 : s + rl ≤ 1048576
          · go_wp2
            go_round
            case rel => exact ⟨k + 1, s + rl, by omega, by go_num, by go_num, by omega, HLN.out hr1⟩
            case measure => simp [intOf]; omega
          · go_wp2
            go_ret
            exact Says.no rfl rfl
        · go_wp2
          go_ret
          exact Says.no rfl rfl
      · have hkC : k = C := by omega
        subst hkC
        go_wp2
        all_goals
          go_ret
          first
            | exact Says.no rfl rfl
            | exact Says.yes rfl rfl ⟨by omega, by omega, by omega, by omega, by omega, HL.out⟩
  · go_enter Trym.func28, Trym.ntmps28
    go_wp2
    go_ret
    exact Says.no rfl rfl

set_option maxHeartbeats 1000000 in
theorem over_any (ea ma ca pa ba : Option Addr) (C N2 N3 N4 N5 ec c2 c3 c4 c5 : Nat) (RA : Nat → Option Addr) (RL RC : Nat → Nat) (w : World) (hC : C ≤ 1048576) (h2 : N2 ≤ 1048576) (h3 : N3 ≤ 1048576) (h4 : N4 ≤ 1048576) (h5 : N5 ≤ 1048576)
    (hs : Sl w ea C (fun c => .slice (RA c) (RL c) (RC c))) (hr : ∀ c, c < C → RL c ≤ 1048576) :
    Calls Trym.prog 12 #[.slice ea C ec, .slice ma N2 c2, .slice ca N3 c3, .slice pa N4 c4, .slice ba N5 c5, .slice none 0 0, .slice none 0 0] w fun e w' => Says True w e w' := by
  have HS := hide hs
  have HR := hide hr
  clear hs hr
  by_cases ht : C * 24 + N2 * 8 + N3 * 4 + N4 * 4 + N5 ≤ 1048576
  · go_enter Trym.func12, Trym.ntmps12
    go_wp2
    go_loop [15, 16] (fun t i => ∃ k s : Nat, k ≤ C ∧ t = .int .i64 (s : Int) ∧ i = .int .i64 (k : Int) ∧ s ≤ 1048576) (fun _ i => (C - intOf i).toNat)
    case atStart => exact ⟨0, C * 24 + N2 * 8 + N3 * 4 + N4 * 4 + N5, by omega, by go_num, rfl, by omega⟩
    case round =>
      obtain ⟨k, s, hk, rfl, rfl, hs1⟩ := hrel
      by_cases hlt : k < C
      · obtain ⟨b, off, rfl, hc0⟩ := HS.out k hlt
        have hc : w.cell? ⟨b, off + k, none⟩ = some (.slice (RA k) (RL k) (RC k)) := hc0
        clear hc0
        have hrk := HR.out k hlt
        generalize RL k = rl at hc hrk
        generalize RA k = ra at hc
        generalize RC k = rc at hc
        by_cases hs2 : s + rl * 8 ≤ 1048576
        · go_wp2
          go_round
          case rel => exact ⟨k + 1, s + rl * 8, by omega, by go_num, by go_num, by omega⟩
          case measure => simp [intOf]; omega
        · go_wp2
          go_ret
          exact Says.yes rfl rfl trivial
      · go_wp2
        go_ret
        exact Says.no rfl rfl
  · go_enter Trym.func12, Trym.ntmps12
    go_wp2
    go_ret
    exact Says.yes rfl rfl trivial

/-- What zzShape holds to. -/
def ShapeOK (n : Int) (C N2 N3 N4 N5 : Nat) (RL : Nat → Nat) (Z : Nat → Nat → Int) (M : Nat → Int) : Prop :=
  0 ≤ n ∧ n ≤ 65536 ∧ C ≤ 4096 ∧ N2 ≤ 4096 ∧ N3 = N2 ∧ N4 = N2 ∧ N5 = N2 ∧ (∀ c, c < C → RL c ≤ 4096 ∧ ∀ k, k < RL c → 0 ≤ Z c k ∧ Z c k < n) ∧ ∀ k, k < N2 → 0 ≤ M k ∧ M k < n

theorem shape_no1 (n : Int) (ea ma ca pa ba : Option Addr) (C N2 N3 N4 N5 ec c2 c3 c4 c5 : Nat) (w : World) (hC : C ≤ 1048576) (h2 : N2 ≤ 1048576)
    (h : n < 0 ∨ (0 ≤ n ∧ 65536 < n) ∨ (0 ≤ n ∧ n ≤ 65536 ∧ 4096 < C) ∨ (0 ≤ n ∧ n ≤ 65536 ∧ C ≤ 4096 ∧ 4096 < N2)) :
    Calls Trym.prog 13 #[.int .i64 n, .slice ea C ec, .slice ma N2 c2, .slice ca N3 c3, .slice pa N4 c4, .slice ba N5 c5, .int .i64 65536, .int .i64 4096, .int .i64 4096, .int .i64 4096] w fun e w' => e = .returned (.bool false) ∧ w = w' := by
  rcases h with h | ⟨h1, h⟩ | ⟨h1, h0, h⟩ | ⟨h1, h0, hc, h⟩
  all_goals
    go_enter Trym.func13, Trym.ntmps13
    go_wp2
    go_ret
    exact ⟨rfl, rfl⟩

theorem shape_no2 (n : Int) (ea ma ca pa ba : Option Addr) (C N2 N3 N4 N5 ec c2 c3 c4 c5 : Nat) (w : World) (hn0 : 0 ≤ n) (hn : n ≤ 65536) (hC : C ≤ 4096) (h2 : N2 ≤ 4096) (h3 : N3 ≤ 1048576) (h4 : N4 ≤ 1048576) (h5 : N5 ≤ 1048576)
    (h : (((N3 : Int) != (N2 : Int)) = true) ∨ ((((N3 : Int) != (N2 : Int)) = false) ∧ (((N4 : Int) != (N2 : Int)) = true)) ∨ ((((N3 : Int) != (N2 : Int)) = false) ∧ (((N4 : Int) != (N2 : Int)) = false) ∧ (((N5 : Int) != (N2 : Int)) = true))) :
    Calls Trym.prog 13 #[.int .i64 n, .slice ea C ec, .slice ma N2 c2, .slice ca N3 c3, .slice pa N4 c4, .slice ba N5 c5, .int .i64 65536, .int .i64 4096, .int .i64 4096, .int .i64 4096] w fun e w' => e = .returned (.bool false) ∧ w = w' := by
  rcases h with h | ⟨h1, h⟩ | ⟨h1, h0, h⟩
  all_goals
    go_enter Trym.func13, Trym.ntmps13
    go_wp2
    go_ret
    exact ⟨rfl, rfl⟩

set_option maxHeartbeats 2000000 in
theorem shape_yes (n : Int) (ea ma ca pa ba : Option Addr) (C N ec c2 c3 c4 c5 : Nat) (RA : Nat → Option Addr) (RL RC : Nat → Nat) (Z : Nat → Nat → Int) (M : Nat → Int) (w : World) (hn0 : 0 ≤ n) (hn : n ≤ 65536) (hC : C ≤ 4096) (h2 : N ≤ 4096)
    (hs : Sl w ea C (fun c => .slice (RA c) (RL c) (RC c))) (hr : ∀ c, c < C → RL c ≤ 1048576) (hz : ∀ c, c < C → Sl w (RA c) (RL c) (fun k => .int .i64 (Z c k))) (hm : Sl w ma N (fun k => .int .i64 (M k))) :
    Calls Trym.prog 13 #[.int .i64 n, .slice ea C ec, .slice ma N c2, .slice ca N c3, .slice pa N c4, .slice ba N c5, .int .i64 65536, .int .i64 4096, .int .i64 4096, .int .i64 4096] w fun e w' =>
      Says ((∀ c, c < C → RL c ≤ 4096 ∧ ∀ k, k < RL c → 0 ≤ Z c k ∧ Z c k < n) ∧ ∀ k, k < N → 0 ≤ M k ∧ M k < n) w e w' := by
  have HS := hide hs
  have HR := hide hr
  have HZ := hide hz
  have HM := hide hm
  clear hs hr hz hm
  have hp : ∃ P : Prop, P = ((∀ c, c < C → RL c ≤ 4096 ∧ ∀ k, k < RL c → 0 ≤ Z c k ∧ Z c k < n) ∧ ∀ k, k < N → 0 ≤ M k ∧ M k < n) := ⟨_, rfl⟩
  obtain ⟨P, hp⟩ := hp
  rw [← hp]
  have HP := hide hp
  clear hp
  have e1 : ((N : Int) != (N : Int)) = false := by simp
  go_enter Trym.func13, Trym.ntmps13
  go_wp2
  go_loop [21] (fun i => ∃ c : Nat, c ≤ C ∧ i = .int .i64 (c : Int) ∧ Hid (∀ c', c' < c → RL c' ≤ 4096 ∧ ∀ k, k < RL c' → 0 ≤ Z c' k ∧ Z c' k < n)) (fun i => (C - intOf i).toNat)
  case atStart => exact ⟨0, by omega, rfl, fun c hc => absurd hc (by omega)⟩
  case round =>
    obtain ⟨c, hc, rfl, HL⟩ := hrel
    by_cases hlt : c < C
    · obtain ⟨b, off, rfl, hc0⟩ := HS.out c hlt
      have hcc : w.cell? ⟨b, off + c, none⟩ = some (.slice (RA c) (RL c) (RC c)) := hc0
      clear hc0
      have hrk := HR.out c hlt
      have HZc := hide (HZ.out c hlt)
      have HNX : Hid (RL c ≤ 4096 → (∀ k, k < RL c → 0 ≤ Z c k ∧ Z c k < n) → ∀ c', c' < c + 1 → RL c' ≤ 4096 ∧ ∀ k, k < RL c' → 0 ≤ Z c' k ∧ Z c' k < n) := fun h1 h2 c' hc' => by
        by_cases e : c' = c
        · subst e; exact ⟨h1, h2⟩
        · exact HL.out c' (by omega)
      generalize RL c = rl at hcc hrk HZc HNX
      generalize RA c = ra at hcc HZc
      generalize RC c = rc at hcc
      by_cases hr1 : rl ≤ 4096
      · go_wp2
        go_loop [23] (fun i => ∃ k : Nat, k ≤ rl ∧ i = .int .i64 (k : Int) ∧ Hid (∀ k', k' < k → 0 ≤ Z c k' ∧ Z c k' < n)) (fun i => (rl - intOf i).toNat)
        case atStart => exact ⟨0, by omega, rfl, fun k hk => absurd hk (by omega)⟩
        case round =>
          obtain ⟨k, hk, rfl, HK⟩ := hrel
          by_cases hlt2 : k < rl
          · obtain ⟨b', off', rfl, hc1⟩ := HZc.out k hlt2
            have hcz : w.cell? ⟨b', off' + k, none⟩ = some (.int .i64 (Z c k)) := hc1
            clear hc1
            have HKN : Hid (0 ≤ Z c k → Z c k < n → ∀ k', k' < k + 1 → 0 ≤ Z c k' ∧ Z c k' < n) := fun h1 h2 k' hk' => by
              by_cases e : k' = k
              · subst e; exact ⟨h1, h2⟩
              · exact HK.out k' (by omega)
            generalize Z c k = z at hcz HKN
            by_cases hz0 : z < 0
            · go_wp2
              go_ret
              exact Says.no rfl rfl
            · by_cases hzn : n ≤ z
              · go_wp2
                go_ret
                exact Says.no rfl rfl
              · go_wp2
                go_round
                case rel => exact ⟨k + 1, by omega, by go_num, HKN.out (by omega) (by omega)⟩
                case measure => simp [intOf]; omega
          · have hkr : k = rl := by omega
            subst hkr
            go_wp2
            go_round
            case rel => exact ⟨c + 1, by omega, by go_num, HNX.out hr1 HK.out⟩
            case measure => simp [intOf]; omega
      · go_wp2
        go_ret
        exact Says.no rfl rfl
    · have hcC : c = C := by omega
      subst hcC
      go_wp2
      go_loop [24] (fun i => ∃ k : Nat, k ≤ N ∧ i = .int .i64 (k : Int) ∧ Hid (∀ k', k' < k → 0 ≤ M k' ∧ M k' < n)) (fun i => (N - intOf i).toNat)
      case atStart => exact ⟨0, by omega, rfl, fun k hk => absurd hk (by omega)⟩
      case round =>
        obtain ⟨k, hk, rfl, HK⟩ := hrel
        by_cases hlt2 : k < N
        · obtain ⟨b', off', rfl, hc1⟩ := HM.out k hlt2
          have hcz : w.cell? ⟨b', off' + k, none⟩ = some (.int .i64 (M k)) := hc1
          clear hc1
          have HKN : Hid (0 ≤ M k → M k < n → ∀ k', k' < k + 1 → 0 ≤ M k' ∧ M k' < n) := fun h1 h2 k' hk' => by
            by_cases e : k' = k
            · subst e; exact ⟨h1, h2⟩
            · exact HK.out k' (by omega)
          generalize M k = z at hcz HKN
          by_cases hz0 : z < 0
          · go_wp2
            go_ret
            exact Says.no rfl rfl
          · by_cases hzn : n ≤ z
            · go_wp2
              go_ret
              exact Says.no rfl rfl
            · go_wp2
              go_round
              case rel => exact ⟨k + 1, by omega, by go_num, HKN.out (by omega) (by omega)⟩
              case measure => simp [intOf]; omega
        · have hkr : k = N := by omega
          subst hkr
          go_wp2
          go_ret
          exact Says.yes rfl rfl (by rw [HP.out]; exact ⟨HL.out, HK.out⟩)

theorem shape_any (n : Int) (ea ma ca pa ba : Option Addr) (C N2 N3 N4 N5 ec c2 c3 c4 c5 : Nat) (RA : Nat → Option Addr) (RL RC : Nat → Nat) (Z : Nat → Nat → Int) (M : Nat → Int) (w : World) (hb : BytesOK C N2 N3 N4 N5 RL)
    (hs : Sl w ea C (fun c => .slice (RA c) (RL c) (RC c))) (hz : ∀ c, c < C → Sl w (RA c) (RL c) (fun k => .int .i64 (Z c k))) (hm : Sl w ma N2 (fun k => .int .i64 (M k))) :
    Calls Trym.prog 13 #[.int .i64 n, .slice ea C ec, .slice ma N2 c2, .slice ca N3 c3, .slice pa N4 c4, .slice ba N5 c5, .int .i64 65536, .int .i64 4096, .int .i64 4096, .int .i64 4096] w fun e w' => Says (ShapeOK n C N2 N3 N4 N5 RL Z M) w e w' := by
  obtain ⟨hC, h2, h3, h4, h5, hr⟩ := hb
  by_cases hA : n < 0 ∨ (0 ≤ n ∧ 65536 < n) ∨ (0 ≤ n ∧ n ≤ 65536 ∧ 4096 < C) ∨ (0 ≤ n ∧ n ≤ 65536 ∧ C ≤ 4096 ∧ 4096 < N2)
  · refine (shape_no1 n ea ma ca pa ba C N2 N3 N4 N5 ec c2 c3 c4 c5 w hC h2 hA).mono ?_
    rintro e w' ⟨rfl, rfl⟩
    exact Says.no rfl rfl
  by_cases hB : (((N3 : Int) != (N2 : Int)) = true) ∨ ((((N3 : Int) != (N2 : Int)) = false) ∧ (((N4 : Int) != (N2 : Int)) = true)) ∨ ((((N3 : Int) != (N2 : Int)) = false) ∧ (((N4 : Int) != (N2 : Int)) = false) ∧ (((N5 : Int) != (N2 : Int)) = true))
  · refine (shape_no2 n ea ma ca pa ba C N2 N3 N4 N5 ec c2 c3 c4 c5 w (by omega) (by omega) (by omega) (by omega) h3 h4 h5 hB).mono ?_
    rintro e w' ⟨rfl, rfl⟩
    exact Says.no rfl rfl
  have e3 : N3 = N2 := by simp at hB; omega
  have e4 : N4 = N2 := by simp at hB; omega
  have e5 : N5 = N2 := by simp at hB; omega
  subst e3 e4 e5
  refine (shape_yes n ea ma ca pa ba C _ ec c2 c3 c4 c5 RA RL RC Z M w (by omega) (by omega) (by omega) (by omega) hs hr hz hm).mono ?_
  rintro e w' ⟨b, rfl, rfl, hp⟩
  exact ⟨b, rfl, rfl, fun h => ⟨by omega, by omega, by omega, by omega, rfl, rfl, rfl, (hp h).1, (hp h).2⟩⟩

end Go.Proofs.Qxb6000857aMods.GuardW
