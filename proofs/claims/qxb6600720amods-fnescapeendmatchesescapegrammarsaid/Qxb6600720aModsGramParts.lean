/-
  THE WALKS of zzSimpleEscape, zzHexDigit, zzEscapePrefix, zzCompleteEscape (26, 27, 20, 19).
-/
import Derived.Test.Qxb6600720aModsEscWalks
import Derived.Test.Qxb6600720aModsGramPlain
namespace Go.Proofs.Qxb6600720aMods.GramW
open Go.RowKit EscP Mem EscW GramP
set_option linter.unusedVariables false

def tabS : List Int := [34, 92, 47, 98, 102, 110, 114, 116]
theorem tabS_at (k : Nat) (h : k < 8) : ((((⟨#[34, 92, 47, 98, 102, 110, 114, 116]⟩ : ByteArray)[k]'h).toNat : Nat) : Int) = tabS.getD k 0 := by
  match k, h with
  | 0, _ => rfl
  | 1, _ => rfl
  | 2, _ => rfl
  | 3, _ => rfl
  | 4, _ => rfl
  | 5, _ => rfl
  | 6, _ => rfl
  | 7, _ => rfl
def tabH : List Int := [48, 49, 50, 51, 52, 53, 54, 55, 56, 57, 97, 98, 99, 100, 101, 102, 65, 66, 67, 68, 69, 70]
theorem tabH_at (k : Nat) (h : k < 22) : ((((⟨#[48, 49, 50, 51, 52, 53, 54, 55, 56, 57, 97, 98, 99, 100, 101, 102, 65, 66, 67, 68, 69, 70]⟩ : ByteArray)[k]'h).toNat : Nat) : Int) = tabH.getD k 0 := by
  match k, h with
  | 0, _ => rfl
  | 1, _ => rfl
  | 2, _ => rfl
  | 3, _ => rfl
  | 4, _ => rfl
  | 5, _ => rfl
  | 6, _ => rfl
  | 7, _ => rfl
  | 8, _ => rfl
  | 9, _ => rfl
  | 10, _ => rfl
  | 11, _ => rfl
  | 12, _ => rfl
  | 13, _ => rfl
  | 14, _ => rfl
  | 15, _ => rfl
  | 16, _ => rfl
  | 17, _ => rfl
  | 18, _ => rfl
  | 19, _ => rfl
  | 20, _ => rfl
  | 21, _ => rfl
  | n + 22, h => exact absurd h (by omega)

theorem simple_no (c : Int) (h : ∀ j, j < 8 → tabS.getD j 0 ≠ c) : simple c = false := by
  have h0 := h 0 (by omega)
  have h1 := h 1 (by omega)
  have h2 := h 2 (by omega)
  have h3 := h 3 (by omega)
  have h4 := h 4 (by omega)
  have h5 := h 5 (by omega)
  have h6 := h 6 (by omega)
  have h7 := h 7 (by omega)
  simp [tabS] at h0 h1 h2 h3 h4 h5 h6 h7
  simp [simple]
  omega
theorem simple_yes (c : Int) (j : Nat) (hj : j < 8) (h : tabS.getD j 0 = c) : simple c = true := by
  match j, hj with
  | 0, _ => subst h; rfl
  | 1, _ => subst h; rfl
  | 2, _ => subst h; rfl
  | 3, _ => subst h; rfl
  | 4, _ => subst h; rfl
  | 5, _ => subst h; rfl
  | 6, _ => subst h; rfl
  | 7, _ => subst h; rfl

theorem simple_any (c : Int) (w : World) :
    Calls Trym.prog 26 #[.int .u8 c] w fun e w' => e = .returned (.bool (simple c)) ∧ w' = w := by
  go_enter Trym.func26, Trym.ntmps26
  go_wp2
  go_loop [3] (fun s => ∃ k : Nat, k ≤ 8 ∧ s = .int .i64 (k : Int) ∧ Hid (∀ j, j < k → tabS.getD j 0 ≠ c)) (fun s => (8 - intOf s).toNat)
  case atStart => exact ⟨0, by omega, rfl, fun j hj => absurd hj (by omega)⟩
  case round =>
    obtain ⟨k, hk, rfl, HN⟩ := hrel
    by_cases hlt : k < 8
    · by_cases he : tabS.getD k 0 = c
      · have hq : ((((⟨#[34, 92, 47, 98, 102, 110, 114, 116]⟩ : ByteArray)[k]'hlt).toNat : Int) == c) = true := by rw [tabS_at k hlt]; simpa using he
        have HY : Hid (simple c = true) := simple_yes c k hlt he
        clear he
        go_wp2
        go_ret
        exact ⟨ret_bool HY.out.symm, rfl⟩
      · have hq : ((((⟨#[34, 92, 47, 98, 102, 110, 114, 116]⟩ : ByteArray)[k]'hlt).toNat : Int) == c) = false := by rw [tabS_at k hlt]; simpa using he
        have HX : Hid (∀ j, j < k + 1 → tabS.getD j 0 ≠ c) := fun j hj => by
          by_cases e : j = k
          · subst e; exact he
          · exact HN.out j (by omega)
        clear he
        go_wp2
        go_round
        case rel => exact ⟨k + 1, by omega, by go_num, HX⟩
        case measure => simp [intOf]; omega
    · have hk8 : k = 8 := by omega
      subst hk8
      go_wp2
      go_ret
      exact ⟨ret_bool (simple_no c HN.out).symm, rfl⟩

theorem hexd_no (c : Int) (h : ∀ j, j < 22 → tabH.getD j 0 ≠ c) : hex c = false := by
  have h0 := h 0 (by omega)
  have h1 := h 1 (by omega)
  have h2 := h 2 (by omega)
  have h3 := h 3 (by omega)
  have h4 := h 4 (by omega)
  have h5 := h 5 (by omega)
  have h6 := h 6 (by omega)
  have h7 := h 7 (by omega)
  have h8 := h 8 (by omega)
  have h9 := h 9 (by omega)
  have h10 := h 10 (by omega)
  have h11 := h 11 (by omega)
  have h12 := h 12 (by omega)
  have h13 := h 13 (by omega)
  have h14 := h 14 (by omega)
  have h15 := h 15 (by omega)
  have h16 := h 16 (by omega)
  have h17 := h 17 (by omega)
  have h18 := h 18 (by omega)
  have h19 := h 19 (by omega)
  have h20 := h 20 (by omega)
  have h21 := h 21 (by omega)
  simp [tabH] at h0 h1 h2 h3 h4 h5 h6 h7 h8 h9 h10 h11 h12 h13 h14 h15 h16 h17 h18 h19 h20 h21
  simp [hex]
  omega
theorem hexd_yes (c : Int) (j : Nat) (hj : j < 22) (h : tabH.getD j 0 = c) : hex c = true := by
  match j, hj with
  | 0, _ => subst h; rfl
  | 1, _ => subst h; rfl
  | 2, _ => subst h; rfl
  | 3, _ => subst h; rfl
  | 4, _ => subst h; rfl
  | 5, _ => subst h; rfl
  | 6, _ => subst h; rfl
  | 7, _ => subst h; rfl
  | 8, _ => subst h; rfl
  | 9, _ => subst h; rfl
  | 10, _ => subst h; rfl
  | 11, _ => subst h; rfl
  | 12, _ => subst h; rfl
  | 13, _ => subst h; rfl
  | 14, _ => subst h; rfl
  | 15, _ => subst h; rfl
  | 16, _ => subst h; rfl
  | 17, _ => subst h; rfl
  | 18, _ => subst h; rfl
  | 19, _ => subst h; rfl
  | 20, _ => subst h; rfl
  | 21, _ => subst h; rfl
  | n + 22, hj => exact absurd hj (by omega)

theorem hexd_any (c : Int) (w : World) :
    Calls Trym.prog 27 #[.int .u8 c] w fun e w' => e = .returned (.bool (hex c)) ∧ w' = w := by
  go_enter Trym.func27, Trym.ntmps27
  go_wp2
  go_loop [3] (fun s => ∃ k : Nat, k ≤ 22 ∧ s = .int .i64 (k : Int) ∧ Hid (∀ j, j < k → tabH.getD j 0 ≠ c)) (fun s => (22 - intOf s).toNat)
  case atStart => exact ⟨0, by omega, rfl, fun j hj => absurd hj (by omega)⟩
  case round =>
    obtain ⟨k, hk, rfl, HN⟩ := hrel
    by_cases hlt : k < 22
    · by_cases he : tabH.getD k 0 = c
      · have hq : ((((⟨#[48, 49, 50, 51, 52, 53, 54, 55, 56, 57, 97, 98, 99, 100, 101, 102, 65, 66, 67, 68, 69, 70]⟩ : ByteArray)[k]'hlt).toNat : Int) == c) = true := by rw [tabH_at k hlt]; simpa using he
        have HY : Hid (hex c = true) := hexd_yes c k hlt he
        clear he
        go_wp2
        go_ret
        exact ⟨ret_bool HY.out.symm, rfl⟩
      · have hq : ((((⟨#[48, 49, 50, 51, 52, 53, 54, 55, 56, 57, 97, 98, 99, 100, 101, 102, 65, 66, 67, 68, 69, 70]⟩ : ByteArray)[k]'hlt).toNat : Int) == c) = false := by rw [tabH_at k hlt]; simpa using he
        have HX : Hid (∀ j, j < k + 1 → tabH.getD j 0 ≠ c) := fun j hj => by
          by_cases e : j = k
          · subst e; exact he
          · exact HN.out j (by omega)
        clear he
        go_wp2
        go_round
        case rel => exact ⟨k + 1, by omega, by go_num, HX⟩
        case measure => simp [intOf]; omega
    · have hk8 : k = 22 := by omega
      subst hk8
      go_wp2
      go_ret
      exact ⟨ret_bool (hexd_no c HN.out).symm, rfl⟩

/-- zzEscapePrefix, of one to five bytes. -/
theorem prefix_simple (b off n cap : Nat) (c : Int) (l : List Int) (hn1 : 1 ≤ n) (hn5 : n ≤ 5) (w : World) (hc : w.cell? ⟨b, off, none⟩ = some (.int .u8 c)) (hs : simple c = true) :
    Calls Trym.prog 20 #[.slice (some ⟨b, off, none⟩) n cap] w fun e w' => e = .returned (.bool ((n : Int) == 1)) ∧ w' = w := by
  have he : ((n : Int) == 0) = false := by simp; omega
  go_enter Trym.func20, Trym.ntmps20
  go_wp2_with (go_at_call 26; refine (simple_any _ _).mono ?_; rintro e w' ⟨rfl, rfl⟩)
  go_ret
  exact ⟨rfl, rfl⟩

theorem prefix_bad (b off n cap : Nat) (c : Int) (l : List Int) (hn1 : 1 ≤ n) (hn5 : n ≤ 5) (w : World) (hc : w.cell? ⟨b, off, none⟩ = some (.int .u8 c)) (hs : simple c = false) (h9 : (c != 117) = true) :
    Calls Trym.prog 20 #[.slice (some ⟨b, off, none⟩) n cap] w fun e w' => e = .returned (.bool false) ∧ w' = w := by
  have he : ((n : Int) == 0) = false := by simp; omega
  go_enter Trym.func20, Trym.ntmps20
  go_wp2_with (go_at_call 26; refine (simple_any _ _).mono ?_; rintro e w' ⟨rfl, rfl⟩)
  go_ret
  exact ⟨rfl, rfl⟩

theorem prefix_u (b off n cap : Nat) (l : List Int) (hl : l.length = n) (hn1 : 1 ≤ n) (hn5 : n ≤ 5) (w : World) (hc : w.cell? ⟨b, off, none⟩ = some (.int .u8 117)) (HB : Hid (Bytes w b off l)) :
    Calls Trym.prog 20 #[.slice (some ⟨b, off, none⟩) n cap] w fun e w' => e = .returned (.bool (l.tail.all hex)) ∧ w' = w := by
  have he : ((n : Int) == 0) = false := by simp; omega
  have hs : simple 117 = false := by rfl
  go_enter Trym.func20, Trym.ntmps20
  go_wp2_with (go_at_call 26; refine (simple_any _ _).mono ?_; rintro e w' ⟨rfl, rfl⟩)
  go_loop [3] (fun s => ∃ k : Nat, 1 ≤ k ∧ k ≤ n ∧ s = .int .i64 (k : Int) ∧ Hid (l.tail.all hex = (l.drop k).all hex)) (fun s => (n - intOf s).toNat)
  case atStart => exact ⟨1, by omega, by omega, rfl, by show _ = _; simp⟩
  case round =>
    obtain ⟨k, hk1, hk, rfl, HN⟩ := hrel
    by_cases hlt : k < n
    · have hck : w'.cell? ⟨b, off + k, none⟩ = some (.int .u8 (l.getD k 0)) := HB.out k (by omega)
      have hd2 := drop_cons l k (by omega)
      generalize l.getD k 0 = c at hd2 hck
      have HD : Hid (l.drop k = c :: l.drop (k + 1)) := hd2
      clear hd2
      cases hx : hex c
      · have HX : Hid (hex c = false) := hx
        go_wp2_with (go_at_call 27; refine (hexd_any _ _).mono ?_; rintro e w' ⟨rfl, rfl⟩)
        go_ret
        exact ⟨ret_bool (by rw [HN.out, HD.out, List.all_cons, HX.out]; rfl), rfl⟩
      · have HX : Hid (hex c = true) := hx
        go_wp2_with (go_at_call 27; refine (hexd_any _ _).mono ?_; rintro e w' ⟨rfl, rfl⟩)
        go_round
        case rel => exact ⟨k + 1, by omega, by omega, by go_num, (by show _ = _; rw [HN.out, HD.out, List.all_cons, HX.out]; rfl)⟩
        case measure => simp [intOf]; omega
    · have hkn : k = n := by omega
      subst hkn
      go_wp2
      go_ret
      exact ⟨ret_bool (by rw [HN.out, List.drop_eq_nil_of_le (by omega)]; rfl), rfl⟩

theorem prefix_any (b off n cap : Nat) (l : List Int) (hl : l.length = n) (hn1 : 1 ≤ n) (hn5 : n ≤ 5) (w : World) (hB : Bytes w b off l) :
    Calls Trym.prog 20 #[.slice (some ⟨b, off, none⟩) n cap] w fun e w' => e = .returned (.bool (pre l)) ∧ w' = w := by
  have hc : w.cell? ⟨b, off, none⟩ = some (.int .u8 (l.getD 0 0)) := by simpa using hB 0 (by omega)
  cases l with
  | nil => simp at hl; omega
  | cons c t =>
    simp at hc hl
    cases hs : simple c
    · by_cases h9 : c = 117
      · subst h9
        refine (prefix_u b off n cap _ (by simpa using hl) hn1 hn5 w hc hB).mono ?_
        rintro e w' ⟨rfl, rfl⟩
        exact ⟨ret_bool (by simp [pre, hs]), rfl⟩
      · refine (prefix_bad b off n cap c [] hn1 hn5 w hc hs (by simpa using h9)).mono ?_
        rintro e w' ⟨rfl, rfl⟩
        exact ⟨ret_bool (by simp [pre, hs, h9]), rfl⟩
    · refine (prefix_simple b off n cap c [] hn1 hn5 w hc hs).mono ?_
      rintro e w' ⟨rfl, rfl⟩
      refine ⟨ret_bool ?_, rfl⟩
      rw [Bool.eq_iff_iff]
      simp [pre, hs]
      rw [← List.length_eq_zero_iff]
      omega

/-- zzCompleteEscape, of one to five bytes. -/
theorem comp_any (b off n cap : Nat) (l : List Int) (hl : l.length = n) (hn1 : 1 ≤ n) (hn5 : n ≤ 5) (w : World) (hB : Bytes w b off l) :
    Calls Trym.prog 19 #[.slice (some ⟨b, off, none⟩) n cap] w fun e w' => e = .returned (.bool (comp l)) ∧ w' = w := by
  have hc : w.cell? ⟨b, off, none⟩ = some (.int .u8 (l.getD 0 0)) := by simpa using hB 0 (by omega)
  have HB : Hid (Bytes w b off l) := hB
  generalize hc0 : l.getD 0 0 = c at hc
  have HC0 : Hid (l.getD 0 0 = c) := hc0
  clear hc0 hB
  by_cases h1 : n = 1
  · have e1 : ((n : Int) == 1) = true := by simp; omega
    have H1 : Hid (n = 1) := h1
    clear h1
    go_enter Trym.func19, Trym.ntmps19
    go_wp2_with (go_at_call 26; refine (simple_any _ _).mono ?_; rintro e w' ⟨rfl, rfl⟩)
    go_ret
    exact ⟨ret_bool (by rw [comp, if_pos (by have := H1.out; omega), HC0.out]), rfl⟩
  · have e1 : ((n : Int) == 1) = false := by simp; omega
    have H1 : Hid (¬ n = 1) := h1
    clear h1
    by_cases h5 : n = 5
    · have e5 : ((n : Int) == 5) = true := by simp; omega
      have H5 : Hid (n = 5) := h5
      clear h5
      by_cases h9 : c = 117
      · have e9 : (c == 117) = true := by simpa using h9
        have H9 : Hid (c = 117) := h9
        clear h9
        go_enter Trym.func19, Trym.ntmps19
        go_wp2_with (go_at_call 20; refine (prefix_any b off n cap l hl hn1 hn5 _ HB.out).mono ?_; rintro e w' ⟨rfl, rfl⟩)
        go_ret
        exact ⟨ret_bool (by rw [comp, if_neg (by have := H1.out; omega), HC0.out, hl, H5.out, H9.out]; simp), rfl⟩
      · have e9 : (c == 117) = false := by simpa using h9
        have H9 : Hid ((c == 117) = false) := e9
        clear h9
        go_enter Trym.func19, Trym.ntmps19
        go_wp2
        go_ret
        exact ⟨ret_bool (by rw [comp, if_neg (by have := H1.out; omega), HC0.out, H9.out]; simp), rfl⟩
    · have e5 : ((n : Int) == 5) = false := by simp; omega
      have H5 : Hid ((l.length == 5) = false) := by show _ = _; rw [hl]; simpa using h5
      clear h5
      go_enter Trym.func19, Trym.ntmps19
      go_wp2
      go_ret
      exact ⟨ret_bool (by rw [comp, if_neg (by have := H1.out; omega), H5.out]; simp), rfl⟩

end Go.Proofs.Qxb6600720aMods.GramW
