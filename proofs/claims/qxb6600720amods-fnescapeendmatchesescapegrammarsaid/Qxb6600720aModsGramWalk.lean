/-
  THE WALK of FnEscapeEndMatchesEscapeGrammar (function 5).
-/
import Derived.Test.Qxb6600720aModsGramParts
namespace Go.Proofs.Qxb6600720aMods.GramW
open Go.RowKit EscP Mem EscW GramP
set_option linter.unusedVariables false

theorem zz_at (b off n cap i E : Nat) (o : Bool) (l : List Int) (hl : l.length = n) (hi : i < n) (hm : n ≤ 1048576) (w : World) (hc : Bytes w b off l) (hE : esc (l.drop (i + 1)) = (E, o)) :
    Calls Trym.prog 18 #[.slice (some ⟨b, off, none⟩) n cap, .int .i64 i] w fun e w' => e = .returned (.tuple #[.int .i64 ((i : Int) + 1 + (E : Int)), .bool o]) ∧ w = w' := by
  refine (zz_any b off n cap i l hl hi hm w hc).mono ?_
  rintro e w' ⟨rfl, rfl⟩
  exact ⟨by unfold ans; rw [hE], rfl⟩

theorem bytes_ok (a0 : Option Addr) (len0 cap0 : Nat) (a1 : Int) (h1 : len0 ≤ 1048576) (w : World) :
    Calls Trym.prog 17 #[.slice a0 len0 cap0, .int .i64 a1] w fun e w' => e = .returned (.bool true) ∧ w = w' := by
  go_enter Trym.func17, Trym.ntmps17
  go_wp2
  go_ret
  exact ⟨rfl, rfl⟩

theorem long (a0 : Option Addr) (len0 cap0 : Nat) (a1 : Int) (w : World) (h1 : 1048576 < len0) (h2 : len0 ≤ 9223372036854775807) :
    Calls Trym.prog 5 #[.slice a0 len0 cap0, .int .i64 a1] w fun e w' => e = .returned (.bool true) ∧ w' = w := by
  go_enter Trym.func5, Trym.ntmps5
  go_wp2
  go_ret
  exact ⟨rfl, rfl⟩

theorem out (a0 : Option Addr) (len0 cap0 : Nat) (a1 : Int) (w : World) (h1 : len0 ≤ 1048576) (h2 : a1 < 0 ∨ (0 ≤ a1 ∧ len0 ≤ a1)) :
    Calls Trym.prog 5 #[.slice a0 len0 cap0, .int .i64 a1] w fun e w' => e = .returned (.bool true) ∧ w' = w := by
  rcases h2 with h2 | ⟨h3, h2⟩
  all_goals
    go_enter Trym.func5, Trym.ntmps5
    go_wp2
    go_ret
    exact ⟨rfl, rfl⟩

theorem comp_at (b off k cap : Nat) (t : List Int) (v : Bool) (hl : k ≤ t.length) (hk1 : 1 ≤ k) (hk5 : k ≤ 5) (w : World) (hB : Bytes w b off t) (hv : comp (t.take k) = v) :
    Calls Trym.prog 19 #[.slice (some ⟨b, off, none⟩) k cap] w fun e w' => e = .returned (.bool v) ∧ w = w' := by
  refine (comp_any b off k cap (t.take k) (len_take t k hl) hk1 hk5 w (hB.take k)).mono ?_
  rintro e w' ⟨rfl, rfl⟩
  exact ⟨by rw [hv], rfl⟩
theorem pre_at (b off k cap : Nat) (t : List Int) (v : Bool) (hl : k ≤ t.length) (hk1 : 1 ≤ k) (hk5 : k ≤ 5) (w : World) (hB : Bytes w b off t) (hv : pre (t.take k) = v) :
    Calls Trym.prog 20 #[.slice (some ⟨b, off, none⟩) k cap] w fun e w' => e = .returned (.bool v) ∧ w = w' := by
  refine (prefix_any b off k cap (t.take k) (len_take t k hl) hk1 hk5 w (hB.take k)).mono ?_
  rintro e w' ⟨rfl, rfl⟩
  exact ⟨by rw [hv], rfl⟩

/-- An escape follows. -/
theorem main_yes (x : Addr) (n cap i E r : Nat) (z l : List Int) (w : World) (hl : n ≤ cap) (hm : n ≤ 1048576) (hz : z.length = cap) (hll : l.length = n) (HLZ : Hid (l = z.take n))
    (hc : Hid (∀ i, i < z.length → w.cell? (x.add i) = some (.int .u8 (z.getD i 0)))) (hi : i < n) (HE : Hid (esc (l.drop (i + 1)) = (E, true))) (hE1 : 1 ≤ E) (hE5 : E ≤ 5) (hEn : i + 1 + E ≤ n)
    (HF : Hid (comp ((l.drop (i + 1)).take E) = true ∧ ∀ k, 1 ≤ k → k < E → comp ((l.drop (i + 1)).take k) = false)) :
    Calls Trym.prog 5 #[.slice (some x) n cap, .int .i64 i] w fun e w' => e = .returned (.bool true) ∧ Below w.heap.size w w' := by
  go_enter Trym.func5, Trym.ntmps5
  go_wp2_with fail
  refine (bytes_ok (some x) n cap i hm _).mono ?_
  rintro e w' ⟨rfl, rfl⟩
  go_wp2_with fail
  refine (clone_row x n cap z _ hl hm hz hc.out).mono ?_
  rintro e w1 ⟨rfl, hb1, hbl, hs1⟩
  rw [← HLZ.out] at hbl
  have HB : Hid (Below w.heap.size w w1) := hb1
  have HBl : Hid (Bytes w1 w.heap.size (i + 1) (l.drop (i + 1))) := by have := hbl.bytes.drop (i + 1); rwa [Nat.zero_add] at this
  go_wp2_with fail
  refine (zz_at _ 0 n n i E _ l hll hi hm _ hbl.bytes HE.out).mono ?_
  rintro e w2 ⟨rfl, rfl⟩
  clear hb1 hbl
  go_wp2_with fail
  go_loop [8, 9, 10] (fun we wo s => ∃ k : Nat, 1 ≤ k ∧ k ≤ E ∧ we = .int .i64 (-1) ∧ wo = .bool false ∧ s = .int .i64 (k : Int)) (fun _ _ s => (E - intOf s).toNat)
  case atStart => exact ⟨1, by omega, hE1, rfl, rfl, rfl⟩
  case round =>
    obtain ⟨k, hk1, hkE, rfl, rfl, rfl⟩ := hrel
    by_cases hlt : k < E
    · have HK : Hid (comp ((l.drop (i + 1)).take k) = false) := HF.out.2 k hk1 hlt
      go_wp2_with fail
      refine (comp_at w.heap.size (i + 1) k (n - (i + 1)) (l.drop (i + 1)) false (by simp [hll]; omega) hk1 (by omega) _ HBl.out HK.out).mono ?_
      rintro e w3 ⟨rfl, rfl⟩
      go_wp2_with fail
      go_round
      case rel => exact ⟨k + 1, by omega, by omega, rfl, rfl, by go_num⟩
      case measure => simp [intOf]; omega
    · have hkE' : k = E := by omega
      subst hkE'
      go_wp2_with fail
      refine (comp_at w.heap.size (i + 1) k (n - (i + 1)) (l.drop (i + 1)) true (by simp [hll]; omega) hk1 (by omega) _ HBl.out HF.out.1).mono ?_
      rintro e w3 ⟨rfl, rfl⟩
      go_wp2
      go_ret
      exact ⟨rfl, HB.out⟩

/-- None follows; some byte does. -/
theorem main_no (x : Addr) (n cap i E r : Nat) (z l : List Int) (w : World) (hl : n ≤ cap) (hm : n ≤ 1048576) (hz : z.length = cap) (hll : l.length = n) (HLZ : Hid (l = z.take n))
    (hc : Hid (∀ i, i < z.length → w.cell? (x.add i) = some (.int .u8 (z.getD i 0)))) (hi' : i + 1 < n) (HE : Hid (esc (l.drop (i + 1)) = (E, false))) (hE5 : E ≤ 5) (hEn : i + 1 + E ≤ n)
    (hr5 : r ≤ 5) (hrn : r ≤ n - (i + 1)) (hr : 5 ≤ r ∨ n - (i + 1) ≤ r)
    (HF : Hid (∀ k, 1 ≤ k → k ≤ r → comp ((l.drop (i + 1)).take k) = false ∧ pre ((l.drop (i + 1)).take k) = decide (k ≤ E))) :
    Calls Trym.prog 5 #[.slice (some x) n cap, .int .i64 i] w fun e w' => e = .returned (.bool true) ∧ Below w.heap.size w w' := by
  have hi : i < n := by omega
  have hEr : E ≤ r := by omega
  go_enter Trym.func5, Trym.ntmps5
  go_wp2_with fail
  refine (bytes_ok (some x) n cap i hm _).mono ?_
  rintro e w' ⟨rfl, rfl⟩
  go_wp2_with fail
  refine (clone_row x n cap z _ hl hm hz hc.out).mono ?_
  rintro e w1 ⟨rfl, hb1, hbl, hs1⟩
  rw [← HLZ.out] at hbl
  have HB : Hid (Below w.heap.size w w1) := hb1
  have HBl : Hid (Bytes w1 w.heap.size (i + 1) (l.drop (i + 1))) := by have := hbl.bytes.drop (i + 1); rwa [Nat.zero_add] at this
  go_wp2_with fail
  refine (zz_at _ 0 n n i E _ l hll hi hm _ hbl.bytes HE.out).mono ?_
  rintro e w2 ⟨rfl, rfl⟩
  clear hb1 hbl
  go_wp2_with fail
  go_loop [8, 9, 10] (fun we wo s => ∃ k : Nat, 1 ≤ k ∧ k ≤ r + 1 ∧ we = .int .i64 (-1) ∧ wo = .bool false ∧ s = .int .i64 (k : Int)) (fun _ _ s => (r + 1 - intOf s).toNat)
  case atStart => exact ⟨1, by omega, by omega, rfl, rfl, rfl⟩
  case round =>
    obtain ⟨k, hk1, hkE, rfl, rfl, rfl⟩ := hrel
    by_cases hlt : k ≤ r
    · have HK : Hid (comp ((l.drop (i + 1)).take k) = false) := (HF.out k hk1 hlt).1
      go_wp2_with fail
      refine (comp_at w.heap.size (i + 1) k (n - (i + 1)) (l.drop (i + 1)) false (by simp [hll]; omega) hk1 (by omega) _ HBl.out HK.out).mono ?_
      rintro e w3 ⟨rfl, rfl⟩
      go_wp2_with fail
      go_round
      case rel => exact ⟨k + 1, by omega, by omega, rfl, rfl, by go_num⟩
      case measure => simp [intOf]; omega
    · by_cases hk5 : k ≤ 5
      · go_wp2_with fail
        go_loop [11, 12] (fun mm s => ∃ m j : Nat, 1 ≤ j ∧ j ≤ r + 1 ∧ mm = .int .i64 (m : Int) ∧ s = .int .i64 (j : Int) ∧ m ≤ E ∧ m ≤ j ∧ Hid (m = min (j - 1) E)) (fun _ s => (r + 1 - intOf s).toNat)
        case atStart => exact ⟨0, 1, by omega, by omega, rfl, rfl, by omega, by omega, by show _ = _; simp⟩
        case round =>
          obtain ⟨m, j, hj1, hjr, rfl, rfl, hmE, hmj, HM⟩ := hrel
          by_cases hlt2 : j ≤ r
          · have HP := (HF.out j hj1 hlt2).2
            by_cases hjE : j ≤ E
            · have HV : Hid (pre ((l.drop (i + 1)).take j) = true) := by show _ = _; rw [HP]; exact decide_eq_true hjE
              clear HP
              go_wp2_with fail
              refine (pre_at w.heap.size (i + 1) j (n - (i + 1)) (l.drop (i + 1)) true (by simp [hll]; omega) hj1 (by omega) _ HBl.out HV.out).mono ?_
              rintro e w3 ⟨rfl, rfl⟩
              go_wp2_with fail
              go_round
              case rel => exact ⟨j, j + 1, by omega, by omega, by go_num, by go_num, by omega, by omega, by show _ = _; omega⟩
              case measure => simp [intOf]; omega
            · have HV : Hid (pre ((l.drop (i + 1)).take j) = false) := by show _ = _; rw [HP]; exact decide_eq_false hjE
              clear HP
              go_wp2_with fail
              refine (pre_at w.heap.size (i + 1) j (n - (i + 1)) (l.drop (i + 1)) false (by simp [hll]; omega) hj1 (by omega) _ HBl.out HV.out).mono ?_
              rintro e w3 ⟨rfl, rfl⟩
              go_wp2_with fail
              go_round
              case rel => exact ⟨m, j + 1, by omega, by omega, by go_num, by go_num, by omega, by omega, by have := HM.out; show _ = _; omega⟩
              case measure => simp [intOf]; omega
          · have hmE' : m = E := by have := HM.out; omega
            subst hmE'
            by_cases hj5 : j ≤ 5
            all_goals (go_wp2_with fail)
            all_goals (go_ret; exact ⟨rfl, HB.out⟩)
      · go_wp2_with fail
        go_loop [11, 12] (fun mm s => ∃ m j : Nat, 1 ≤ j ∧ j ≤ r + 1 ∧ mm = .int .i64 (m : Int) ∧ s = .int .i64 (j : Int) ∧ m ≤ E ∧ m ≤ j ∧ Hid (m = min (j - 1) E)) (fun _ s => (r + 1 - intOf s).toNat)
        case atStart => exact ⟨0, 1, by omega, by omega, rfl, rfl, by omega, by omega, by show _ = _; simp⟩
        case round =>
          obtain ⟨m, j, hj1, hjr, rfl, rfl, hmE, hmj, HM⟩ := hrel
          by_cases hlt2 : j ≤ r
          · have HP := (HF.out j hj1 hlt2).2
            by_cases hjE : j ≤ E
            · have HV : Hid (pre ((l.drop (i + 1)).take j) = true) := by show _ = _; rw [HP]; exact decide_eq_true hjE
              clear HP
              go_wp2_with fail
              refine (pre_at w.heap.size (i + 1) j (n - (i + 1)) (l.drop (i + 1)) true (by simp [hll]; omega) hj1 (by omega) _ HBl.out HV.out).mono ?_
              rintro e w3 ⟨rfl, rfl⟩
              go_wp2_with fail
              go_round
              case rel => exact ⟨j, j + 1, by omega, by omega, by go_num, by go_num, by omega, by omega, by show _ = _; omega⟩
              case measure => simp [intOf]; omega
            · have HV : Hid (pre ((l.drop (i + 1)).take j) = false) := by show _ = _; rw [HP]; exact decide_eq_false hjE
              clear HP
              go_wp2_with fail
              refine (pre_at w.heap.size (i + 1) j (n - (i + 1)) (l.drop (i + 1)) false (by simp [hll]; omega) hj1 (by omega) _ HBl.out HV.out).mono ?_
              rintro e w3 ⟨rfl, rfl⟩
              go_wp2_with fail
              go_round
              case rel => exact ⟨m, j + 1, by omega, by omega, by go_num, by go_num, by omega, by omega, by have := HM.out; show _ = _; omega⟩
              case measure => simp [intOf]; omega
          · have hmE' : m = E := by have := HM.out; omega
            subst hmE'
            by_cases hj5 : j ≤ 5
            all_goals (go_wp2_with fail)
            all_goals (go_ret; exact ⟨rfl, HB.out⟩)

/-- Nothing follows. -/
theorem main_end (x : Addr) (n cap i : Nat) (z l : List Int) (w : World) (hl : n ≤ cap) (hm : n ≤ 1048576) (hz : z.length = cap) (hll : l.length = n) (HLZ : Hid (l = z.take n))
    (hc : Hid (∀ i, i < z.length → w.cell? (x.add i) = some (.int .u8 (z.getD i 0)))) (hi : i < n) (hi' : n ≤ i + 1) (HE : Hid (esc (l.drop (i + 1)) = (0, false))) :
    Calls Trym.prog 5 #[.slice (some x) n cap, .int .i64 i] w fun e w' => e = .returned (.bool true) ∧ Below w.heap.size w w' := by
  go_enter Trym.func5, Trym.ntmps5
  go_wp2_with fail
  refine (bytes_ok (some x) n cap i hm _).mono ?_
  rintro e w' ⟨rfl, rfl⟩
  go_wp2_with fail
  refine (clone_row x n cap z _ hl hm hz hc.out).mono ?_
  rintro e w1 ⟨rfl, hb1, hbl, hs1⟩
  rw [← HLZ.out] at hbl
  have HB : Hid (Below w.heap.size w w1) := hb1
  go_wp2_with fail
  refine (zz_at _ 0 n n i 0 _ l hll hi hm _ hbl.bytes HE.out).mono ?_
  rintro e w2 ⟨rfl, rfl⟩
  clear hb1 hbl
  go_wp2_with fail
  go_loop [8, 9, 10] (fun we wo s => we = .int .i64 (-1) ∧ wo = .bool false ∧ s = .int .i64 1) (fun _ _ _ => 0)
  case atStart => exact ⟨rfl, rfl, rfl⟩
  case round =>
    obtain ⟨rfl, rfl, rfl⟩ := hrel
    go_wp2_with fail
    go_loop [11, 12] (fun mm s => mm = .int .i64 0 ∧ s = .int .i64 1) (fun _ _ => 0)
    case atStart => exact ⟨rfl, rfl⟩
    case round =>
      obtain ⟨rfl, rfl⟩ := hrel
      go_wp2
      go_ret
      exact ⟨rfl, HB.out⟩

def IsRow (k : IntKind) (w : World) (a : Option Addr) (len cap : Nat) (zs : List Int) : Prop :=
  (a = none ∧ len = 0 ∧ cap = 0 ∧ zs = []) ∨
  ∃ x, a = some x ∧ len ≤ cap ∧ cap ≤ maxLen ∧ zs.length = cap ∧ (∀ i, i < zs.length → w.cell? (x.add i) = some (.int k (zs.getD i 0))) ∧ ∀ n ∈ zs, (Lit.int k n).wf = true

theorem walk (a0 : Option Addr) (len0 cap0 : Nat) (z0 : List Int) (a1 : Int) (w : World) (w0 : IsRow .u8 w a0 len0 cap0 z0) (w1 : (Lit.int .i64 a1).wf = true) :
    Calls Trym.prog 5 #[.slice a0 len0 cap0, .int .i64 a1] w fun e w' => e = .returned (.bool true) ∧ Below w.heap.size w w' := by
  have hlen : len0 ≤ 9223372036854775807 := by
    rcases w0 with ⟨_, h, _, _⟩ | ⟨x, _, h1, h2, _⟩
    · omega
    · unfold maxLen at h2; omega
  by_cases h1 : 1048576 < len0
  · refine (long a0 len0 cap0 a1 w h1 hlen).mono ?_
    rintro e w' ⟨rfl, rfl⟩; exact ⟨rfl, Below.refl _ _⟩
  by_cases h2 : a1 < 0 ∨ (0 ≤ a1 ∧ len0 ≤ a1)
  · refine (out a0 len0 cap0 a1 w (by omega) h2).mono ?_
    rintro e w' ⟨rfl, rfl⟩; exact ⟨rfl, Below.refl _ _⟩
  obtain ⟨i, rfl⟩ := Int.eq_ofNat_of_zero_le (show 0 ≤ a1 by omega)
  rcases w0 with ⟨_, rfl, _, _⟩ | ⟨x, rfl, hl, hm, hz, hc, hwz⟩
  · exfalso; omega
  · have hll : (z0.take len0).length = len0 := by simp; omega
    obtain ⟨E, o, hE⟩ : ∃ E o, esc ((z0.take len0).drop (i + 1)) = (E, o) := ⟨_, _, rfl⟩
    have he := esc_le ((z0.take len0).drop (i + 1))
    rw [hE] at he
    have hlen2 : ((z0.take len0).drop (i + 1)).length = len0 - (i + 1) := by simp; omega
    rw [hlen2] at he
    simp only at he
    cases o
    · by_cases hend : len0 ≤ i + 1
      · have e0 : E = 0 := by omega
        subst e0
        exact main_end x len0 cap0 i z0 _ w hl (by omega) hz hll rfl hc (by omega) hend hE
      · exact main_no x len0 cap0 i E (min 5 (len0 - (i + 1))) z0 _ w hl (by omega) hz hll rfl hc (by omega) hE (by omega) (by omega) (by omega) (by omega) (by omega)
          (fun k hk1 hk2 => none' _ E hE k hk1 (by omega) (by rw [hlen2]; omega))
    · obtain ⟨f1, f2, f3, f4, f5⟩ := first _ E hE
      exact main_yes x len0 cap0 i E 0 z0 _ w hl (by omega) hz hll rfl hc (by omega) hE f1 f2 (by omega) ⟨f4, f5⟩

end Go.Proofs.Qxb6600720aMods.GramW
