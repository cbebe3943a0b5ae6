/-
  THE WALK of FnEscapeEndLocalAndBounded (function 6).
-/
import Derived.Test.Qxb6600720aModsEscWalks
namespace Go.Proofs.Qxb6600720aMods.LocalW
open Go.RowKit EscP Mem EscW
set_option linter.unusedVariables false

theorem zz_at (b off n cap i E : Nat) (o : Bool) (l : List Int) (hl : l.length = n) (hi : i < n) (hm : n ≤ 1048576) (w : World) (hc : Bytes w b off l) (hE : esc (l.drop (i + 1)) = (E, o)) :
    Calls Trym.prog 18 #[.slice (some ⟨b, off, none⟩) n cap, .int .i64 i] w fun e w' => e = .returned (.tuple #[.int .i64 ((i : Int) + 1 + (E : Int)), .bool o]) ∧ w' = w := by
  refine (zz_any b off n cap i l hl hi hm w hc).mono ?_
  rintro e w' ⟨rfl, rfl⟩
  exact ⟨by unfold ans; rw [hE], rfl⟩

theorem zz_0 (b off n cap E : Nat) (o : Bool) (l : List Int) (hl : l.length = n) (hi : 0 < n) (hm : n ≤ 1048576) (w : World) (hc : Bytes w b off l) (hE : esc (l.drop 1) = (E, o)) :
    Calls Trym.prog 18 #[.slice (some ⟨b, off, none⟩) n cap, .int .i64 0] w fun e w' => e = .returned (.tuple #[.int .i64 (1 + (E : Int)), .bool o]) ∧ w' = w := by
  have := zz_at b off n cap 0 E o l hl hi hm w hc hE
  simpa using this

/-- Too long: nothing is asked. -/
theorem long (a0 : Option Addr) (len0 cap0 : Nat) (a1 : Int) (w : World) (h1 : 1048576 < len0) (h2 : len0 ≤ 9223372036854775807) :
    Calls Trym.prog 6 #[.slice a0 len0 cap0, .int .i64 a1] w fun e w' => e = .returned (.bool true) ∧ w' = w := by
  go_enter Trym.func6, Trym.ntmps6
  go_wp2
  go_ret
  exact ⟨rfl, rfl⟩

/-- No such place: nothing is asked. -/
theorem out (a0 : Option Addr) (len0 cap0 : Nat) (a1 : Int) (w : World) (h1 : len0 ≤ 1048576) (h2 : a1 < 0 ∨ len0 ≤ a1) :
    Calls Trym.prog 6 #[.slice a0 len0 cap0, .int .i64 a1] w fun e w' => e = .returned (.bool true) ∧ w' = w := by
  rcases h2 with h2 | h2
  · go_enter Trym.func6, Trym.ntmps6
    go_wp2
    go_ret
    exact ⟨rfl, rfl⟩
  · by_cases h3 : a1 < 0
    · omega
    · go_enter Trym.func6, Trym.ntmps6
      go_wp2
      go_ret
      exact ⟨rfl, rfl⟩

theorem bytes_ok (a0 : Option Addr) (len0 cap0 : Nat) (a1 : Int) (h1 : len0 ≤ 1048576) (w : World) :
    Calls Trym.prog 21 #[.slice a0 len0 cap0, .int .i64 a1] w fun e w' => e = .returned (.bool true) ∧ w' = w := by
  go_enter Trym.func21, Trym.ntmps21
  go_wp2
  go_ret
  exact ⟨rfl, rfl⟩

theorem esc_drop (l : List Int) (i : Nat) : (l.drop i).drop 1 = l.drop (i + 1) := by simp
theorem esc_win (l : List Int) (i k : Nat) (h : 6 ≤ k ∨ l.length ≤ i + k) : esc (((l.drop i).take k).drop 1) = esc (l.drop (i + 1)) := by
  rcases h with h | h
  · have e : ((l.drop i).take k).drop 1 = (l.drop (i + 1)).take (k - 1) := by rw [List.drop_take]; simp
    rw [e, ← esc_window, List.take_take, Nat.min_eq_left (by omega), esc_window]
  · rw [List.take_of_length_le (by simp; omega), esc_drop]

set_option maxHeartbeats 1000000 in
theorem main_wide (x : Addr) (n cap i E : Nat) (o : Bool) (z l : List Int) (w : World) (hl : n ≤ cap) (hm : n ≤ 1048576) (hz : z.length = cap) (hll : l.length = n) (HLZ : Hid (l = z.take n))
    (hc : Hid (∀ i, i < z.length → w.cell? (x.add i) = some (.int .u8 (z.getD i 0)))) (hi : i < n) (HE : Hid (esc (l.drop (i + 1)) = (E, o))) (hE5 : E ≤ 5) (hEn : i + 1 + E ≤ n)
    (hok : o = false ∨ (o = true ∧ ((i : Int) + 1 + (E : Int) - (i : Int) != 2) = false) ∨ (o = true ∧ ((i : Int) + 1 + (E : Int) - (i : Int) != 2) = true ∧ ((i : Int) + 1 + (E : Int) - (i : Int) != 6) = false))
    (hw : i + 6 < n) :
    Calls Trym.prog 6 #[.slice (some x) n cap, .int .i64 i] w fun e w' => e = .returned (.bool true) ∧ Below w.heap.size w w' := by
  have hg1 : ((1 + (E : Int)) != ((i : Int) + 1 + (E : Int) - (i : Int))) = false := by simp; omega
  have hg2 : ((1 + (E : Int)) == ((i : Int) + 1 + (E : Int) - (i : Int))) = true := by simp; omega
  rcases hok with rfl | ⟨rfl, h2⟩ | ⟨rfl, h2, h6⟩
  all_goals
    go_enter Trym.func6, Trym.ntmps6
    go_wp2_with fail
    refine (bytes_ok (some x) n cap i hm _).mono ?_
    rintro e w' ⟨rfl, rfl⟩
    go_wp2_with fail
    refine (clone_row x n cap z _ hl hm hz hc.out).mono ?_
    rintro e w1 ⟨rfl, hb1, hbl, hs1⟩
    rw [← HLZ.out] at hbl
    have HB : Hid (Below w'.heap.size w' w1) := hb1
    have HBl : Hid (Bytes w1 w'.heap.size 0 l) := hbl.bytes
    clear hb1 hbl
    go_wp2_with fail
    refine (zz_at _ 0 n n i E _ l hll hi hm _ HBl.out HE.out).mono ?_
    rintro e w2 ⟨rfl, rfl⟩
    go_wp2_with fail
    refine (zz_0 _ i (n - i) (n - i) E _ (l.drop i) (by simp [hll]) (by omega) (by omega) _ (by have := HBl.out.drop i; rwa [Nat.zero_add] at this) (by rw [esc_drop]; exact HE.out)).mono ?_
    rintro e w2 ⟨rfl, rfl⟩
    go_wp2_with fail
    refine (zz_0 _ i 6 (n - i) E _ ((l.drop i).take 6) (by simp [hll]; omega) (by omega) (by omega) _ (by have := (HBl.out.drop i).take 6; rwa [Nat.zero_add] at this) (by rw [esc_win _ _ _ (.inl (Nat.le_refl _))]; exact HE.out)).mono ?_
    rintro e w2 ⟨rfl, rfl⟩
    go_wp2
    go_ret
    exact ⟨rfl, HB.out⟩

set_option maxHeartbeats 1000000 in
theorem main_short (x : Addr) (n cap i E : Nat) (o : Bool) (z l : List Int) (w : World) (hl : n ≤ cap) (hm : n ≤ 1048576) (hz : z.length = cap) (hll : l.length = n) (HLZ : Hid (l = z.take n))
    (hc : Hid (∀ i, i < z.length → w.cell? (x.add i) = some (.int .u8 (z.getD i 0)))) (hi : i < n) (HE : Hid (esc (l.drop (i + 1)) = (E, o))) (hE5 : E ≤ 5) (hEn : i + 1 + E ≤ n)
    (hok : o = false ∨ (o = true ∧ ((i : Int) + 1 + (E : Int) - (i : Int) != 2) = false) ∨ (o = true ∧ ((i : Int) + 1 + (E : Int) - (i : Int) != 2) = true ∧ ((i : Int) + 1 + (E : Int) - (i : Int) != 6) = false))
    (hw : n ≤ i + 6) :
    Calls Trym.prog 6 #[.slice (some x) n cap, .int .i64 i] w fun e w' => e = .returned (.bool true) ∧ Below w.heap.size w w' := by
  have hg1 : ((1 + (E : Int)) != ((i : Int) + 1 + (E : Int) - (i : Int))) = false := by simp; omega
  have hg2 : ((1 + (E : Int)) == ((i : Int) + 1 + (E : Int) - (i : Int))) = true := by simp; omega
  rcases hok with rfl | ⟨rfl, h2⟩ | ⟨rfl, h2, h6⟩
  all_goals
    go_enter Trym.func6, Trym.ntmps6
    go_wp2_with fail
    refine (bytes_ok (some x) n cap i hm _).mono ?_
    rintro e w' ⟨rfl, rfl⟩
    go_wp2_with fail
    refine (clone_row x n cap z _ hl hm hz hc.out).mono ?_
    rintro e w1 ⟨rfl, hb1, hbl, hs1⟩
    rw [← HLZ.out] at hbl
    have HB : Hid (Below w'.heap.size w' w1) := hb1
    have HBl : Hid (Bytes w1 w'.heap.size 0 l) := hbl.bytes
    clear hb1 hbl
    go_wp2_with fail
    refine (zz_at _ 0 n n i E _ l hll hi hm _ HBl.out HE.out).mono ?_
    rintro e w2 ⟨rfl, rfl⟩
    go_wp2_with fail
    refine (zz_0 _ i (n - i) (n - i) E _ (l.drop i) (by simp [hll]) (by omega) (by omega) _ (by have := HBl.out.drop i; rwa [Nat.zero_add] at this) (by rw [esc_drop]; exact HE.out)).mono ?_
    rintro e w2 ⟨rfl, rfl⟩
    go_wp2_with fail
    refine (zz_0 _ i (n - i) (n - i) E _ (l.drop i) (by simp [hll]) (by omega) (by omega) _ (by have := HBl.out.drop i; rwa [Nat.zero_add] at this) (by rw [esc_drop]; exact HE.out)).mono ?_
    rintro e w2 ⟨rfl, rfl⟩
    go_wp2
    go_ret
    exact ⟨rfl, HB.out⟩

def IsRow (k : IntKind) (w : World) (a : Option Addr) (len cap : Nat) (zs : List Int) : Prop :=
  (a = none ∧ len = 0 ∧ cap = 0 ∧ zs = []) ∨
  ∃ x, a = some x ∧ len ≤ cap ∧ cap ≤ maxLen ∧ zs.length = cap ∧ (∀ i, i < zs.length → w.cell? (x.add i) = some (.int k (zs.getD i 0))) ∧ ∀ n ∈ zs, (Lit.int k n).wf = true

theorem walk (a0 : Option Addr) (len0 cap0 : Nat) (z0 : List Int) (a1 : Int) (w : World) (w0 : IsRow .u8 w a0 len0 cap0 z0) (w1 : (Lit.int .i64 a1).wf = true) :
    Calls Trym.prog 6 #[.slice a0 len0 cap0, .int .i64 a1] w fun e w' => e = .returned (.bool true) ∧ Below w.heap.size w w' := by
  have hlen : len0 ≤ 9223372036854775807 := by
    rcases w0 with ⟨_, h, _, _⟩ | ⟨x, _, h1, h2, _⟩
    · omega
    · unfold maxLen at h2; omega
  by_cases h1 : 1048576 < len0
  · refine (long a0 len0 cap0 a1 w h1 hlen).mono ?_
    rintro e w' ⟨rfl, rfl⟩; exact ⟨rfl, Below.refl _ _⟩
  by_cases h2 : a1 < 0 ∨ len0 ≤ a1
  · refine (out a0 len0 cap0 a1 w (by omega) h2).mono ?_
    rintro e w' ⟨rfl, rfl⟩; exact ⟨rfl, Below.refl _ _⟩
  obtain ⟨i, rfl⟩ := Int.eq_ofNat_of_zero_le (show 0 ≤ a1 by omega)
  rcases w0 with ⟨_, rfl, _, _⟩ | ⟨x, rfl, hl, hm, hz, hc, hwz⟩
  · exfalso; omega
  · have hll : (z0.take len0).length = len0 := by simp; omega
    obtain ⟨E, o, hE⟩ : ∃ E o, esc ((z0.take len0).drop (i + 1)) = (E, o) := ⟨_, _, rfl⟩
    have he := esc_le ((z0.take len0).drop (i + 1))
    have ho := esc_ok ((z0.take len0).drop (i + 1))
    rw [hE] at he ho
    have hlen2 : ((z0.take len0).drop (i + 1)).length = len0 - (i + 1) := by simp; omega
    rw [hlen2] at he
    simp only at he ho
    have hok : o = false ∨ (o = true ∧ ((i : Int) + 1 + (E : Int) - (i : Int) != 2) = false) ∨ (o = true ∧ ((i : Int) + 1 + (E : Int) - (i : Int) != 2) = true ∧ ((i : Int) + 1 + (E : Int) - (i : Int) != 6) = false) := by
      cases o
      · exact .inl rfl
      · rcases ho rfl with h | h
        · exact .inr (.inl ⟨rfl, by simp; omega⟩)
        · exact .inr (.inr ⟨rfl, by simp; omega, by simp; omega⟩)
    by_cases hw : i + 6 < len0
    · exact main_wide x len0 cap0 i E o z0 _ w hl (by omega) hz hll rfl hc (by omega) hE (by omega) (by omega) hok hw
    · exact main_short x len0 cap0 i E o z0 _ w hl (by omega) hz hll rfl hc (by omega) hE (by omega) (by omega) hok (by omega)

end Go.Proofs.Qxb6600720aMods.LocalW
