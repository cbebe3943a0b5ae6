/-
  THE PLAIN LAW of FnGivingPartsRecordsWhatIsGiven: no Go: buckets by key, insertion from the right, what a script gives.
-/
import Derived.Test.Qxb6000857aModsBuild
namespace Go.Proofs.Qxb6000857aMods.SortP
open GivW PartsW BuildW
set_option linter.unusedVariables false

/-- The elements of E bucket by bucket, keys 0 .. q - 1. -/
def Bk (key : Nat → Int) (E : List Nat) : Nat → List Nat
  | 0 => []
  | q + 1 => Bk key E q ++ E.filter (fun k => decide (key k = (q : Int)))
/-- .. keys t .. t + m - 1. -/
def Dk (key : Nat → Int) (E : List Nat) (t : Nat) : Nat → List Nat
  | 0 => []
  | m + 1 => Dk key E t m ++ E.filter (fun k => decide (key k = ((t + m : Nat) : Int)))

theorem bk_split (key : Nat → Int) (E : List Nat) (t m : Nat) : Bk key E (t + m) = Bk key E t ++ Dk key E t m := by
  induction m with
  | zero => simp [Dk]
  | succ m ih => rw [← Nat.add_assoc, Bk, ih, Dk, List.append_assoc]
theorem bk_low (key : Nat → Int) (E : List Nat) (q : Nat) : ∀ k ∈ Bk key E q, key k < (q : Int) := by
  induction q with
  | zero => simp [Bk]
  | succ q ih =>
    intro k hk
    rw [Bk, List.mem_append] at hk
    rcases hk with hk | hk
    · have := ih k hk; omega
    · have := (List.mem_filter.1 hk).2; simp at this; omega
theorem dk_high (key : Nat → Int) (E : List Nat) (t m : Nat) : ∀ k ∈ Dk key E t m, (t : Int) ≤ key k := by
  induction m with
  | zero => simp [Dk]
  | succ m ih =>
    intro k hk
    rw [Dk, List.mem_append] at hk
    rcases hk with hk | hk
    · exact ih k hk
    · have := (List.mem_filter.1 hk).2; simp at this; omega
theorem bk_snoc_low (key : Nat → Int) (E : List Nat) (x t q : Nat) (hx : key x = (t : Int)) (h : q ≤ t) : Bk key (E ++ [x]) q = Bk key E q := by
  induction q with
  | zero => rfl
  | succ q ih =>
    rw [Bk, Bk, ih (by omega), List.filter_append]
    have : decide (key x = (q : Int)) = false := by simp [hx]; omega
    simp [this]
theorem dk_snoc (key : Nat → Int) (E : List Nat) (x t m : Nat) (hx : key x = (t : Int)) : Dk key (E ++ [x]) (t + 1) m = Dk key E (t + 1) m := by
  induction m with
  | zero => rfl
  | succ m ih =>
    rw [Dk, Dk, ih, List.filter_append]
    have : [x].filter (fun k => decide (key k = ((t + 1 + m : Nat) : Int))) = [] := by
      rw [List.filter_cons, if_neg (by rw [hx]; simp; omega)]; rfl
    rw [this, List.append_nil]
theorem bk_snoc (key : Nat → Int) (E : List Nat) (x t Q : Nat) (hx : key x = (t : Int)) (ht : t < Q) : ∃ A D, Bk key E Q = A ++ D ∧ Bk key (E ++ [x]) Q = A ++ x :: D ∧ (∀ k ∈ A, key k ≤ (t : Int)) ∧ ∀ k ∈ D, (t : Int) < key k := by
  obtain ⟨m, rfl⟩ : ∃ m, Q = t + 1 + m := ⟨Q - (t + 1), by omega⟩
  refine ⟨Bk key E (t + 1), Dk key E (t + 1) m, bk_split _ _ _ _, ?_, fun k hk => ?_, fun k hk => ?_⟩
  · rw [bk_split, dk_snoc _ _ _ _ _ hx, Bk, bk_snoc_low _ _ _ _ _ hx (Nat.le_refl _), List.filter_append]
    have : decide (key x = (t : Int)) = true := by simp [hx]
    simp [this, Bk]
  · have := bk_low _ _ _ k hk; omega
  · have := dk_high _ _ _ _ k hk; omega

theorem bk_length_rev (key : Nat → Int) (Q : Nat) : ∀ (E : List Nat), (∀ k ∈ E, 0 ≤ key k ∧ key k < (Q : Int)) → (Bk key E.reverse Q).length = E.length
  | [], h => by
    have : ∀ q, Bk key [] q = [] := fun q => by induction q with | zero => rfl | succ q ih => rw [Bk, ih]; rfl
    rw [List.reverse_nil, this]
  | x :: E, h => by
    have hx := h x (by simp)
    obtain ⟨t, ht⟩ := Int.eq_ofNat_of_zero_le hx.1
    obtain ⟨A, D, h1, h2, _⟩ := bk_snoc key E.reverse x t Q ht (by omega)
    have := bk_length_rev key Q E (fun k hk => h k (by simp [hk]))
    rw [List.reverse_cons, h2]; rw [h1] at this; simp at this ⊢; omega
theorem bk_length (key : Nat → Int) (Q : Nat) (E : List Nat) (h : ∀ k ∈ E, 0 ≤ key k ∧ key k < (Q : Int)) : (Bk key E Q).length = E.length := by
  have := bk_length_rev key Q E.reverse (fun k hk => h k (by simpa using hk))
  simpa using this

/-- THE INSERTION FROM THE RIGHT finds the one place. -/
theorem ins_law (key : Nat → Int) (E : List Nat) (x t Q b : Nat) (hx : key x = (t : Int)) (ht : t < Q) (hb : b ≤ (Bk key E Q).length)
    (h1 : ∀ j, b ≤ j → j < (Bk key E Q).length → (t : Int) < key ((Bk key E Q).getD j 0)) (h2 : b = 0 ∨ key ((Bk key E Q).getD (b - 1) 0) ≤ (t : Int)) :
    Bk key (E ++ [x]) Q = (Bk key E Q).take b ++ x :: (Bk key E Q).drop b := by
  obtain ⟨A, D, e1, e2, hA, hD⟩ := bk_snoc key E x t Q hx ht
  rw [e1] at hb h1 h2 ⊢
  rw [e2]
  have hb : b ≤ A.length + D.length := by simpa using hb
  have hbA : b = A.length := by
    rcases Nat.lt_trichotomy b A.length with h | h | h
    · have a := h1 b (Nat.le_refl _) (by simp; omega)
      have e : (A ++ D).getD b 0 = A[b] := by simp [List.getD_eq_getElem?_getD, List.getElem?_append_left h, List.getElem?_eq_getElem h]
      rw [e] at a
      have := hA _ (List.getElem_mem h)
      omega
    · exact h
    · rcases h2 with h2 | h2
      · omega
      · have hd : b - 1 - A.length < D.length := by omega
        have e : (A ++ D).getD (b - 1) 0 = D[b - 1 - A.length] := by
          rw [List.getD_eq_getElem?_getD, List.getElem?_append_right (by omega), List.getElem?_eq_getElem hd]; rfl
        rw [e] at h2
        have := hD _ (List.getElem_mem hd)
        omega
  subst hbA
  simp

/-- Which entries of the script count for member i. -/
def Ev (M : Nat → Nat) (Cl : Nat → Int) (C i K : Nat) : List Nat := (List.range K).filter (fun k => decide (0 ≤ Cl k ∧ Cl k < (C : Int) ∧ M k = i))
def keyZ (Cl : Nat → Int) (An : Nat → Bool) (k : Nat) : Int := Cl k * 2 + if An k then 1 else 0

theorem lTo_eq (M : Nat → Nat) (Cl Pt : Nat → Int) (An : Nat → Bool) (s : Bool) (i : Nat) (c : Int) (N : Nat) : lTo M Cl Pt An N s i c = ((List.range N).filter (fun k => decide (s = An k ∧ i = M k ∧ c = Cl k))).map Pt := by
  induction N with
  | zero => rfl
  | succ N ih =>
    rw [lTo, List.range_succ, List.filter_append, List.map_append, ← ih]
    unfold updF
    by_cases h : s = An N ∧ i = M N ∧ c = Cl N
    · obtain ⟨rfl, rfl, rfl⟩ := h; simp
    · rw [if_neg h]; simp [h]

theorem key_even (Cl : Nat → Int) (An : Nat → Bool) (k C : Nat) : keyZ Cl An k = ((2 * C : Nat) : Int) ↔ An k = false ∧ Cl k = (C : Int) := by
  unfold keyZ
  cases An k <;> simp <;> omega
theorem key_odd (Cl : Nat → Int) (An : Nat → Bool) (k C : Nat) : keyZ Cl An k = ((2 * C + 1 : Nat) : Int) ↔ An k = true ∧ Cl k = (C : Int) := by
  unfold keyZ
  cases An k <;> simp <;> omega

theorem parts_eq (M : Nat → Nat) (Cl Pt : Nat → Int) (An : Nat → Bool) (N C0 i : Nat) : ∀ C, C ≤ C0 → partsTo (lTo M Cl Pt An N false i) (lTo M Cl Pt An N true i) C = (Bk (keyZ Cl An) (Ev M Cl C0 i N) (2 * C)).map Pt
  | 0, _ => rfl
  | C + 1, h => by
    have e : 2 * (C + 1) = 2 * C + 1 + 1 := by omega
    rw [partsTo, parts_eq M Cl Pt An N C0 i C (by omega), e, Bk, Bk, List.map_append, List.map_append, lTo_eq, lTo_eq]
    unfold Ev
    rw [List.filter_filter, List.filter_filter]
    congr 2
    · congr 1
      refine List.filter_congr fun k _ => ?_
      rw [Bool.eq_iff_iff, Bool.and_eq_true, decide_eq_true_eq, decide_eq_true_eq, decide_eq_true_eq, key_even]
      constructor
      · rintro ⟨h1, h2, h3⟩
        exact ⟨⟨h1.symm, h3.symm⟩, by omega, by omega, h2.symm⟩
      · rintro ⟨⟨h1, h2⟩, h3, h4, h5⟩
        exact ⟨h1.symm, h5.symm, h2.symm⟩
    · refine List.filter_congr fun k _ => ?_
      rw [Bool.eq_iff_iff, Bool.and_eq_true, decide_eq_true_eq, decide_eq_true_eq, decide_eq_true_eq, key_odd]
      constructor
      · rintro ⟨h1, h2, h3⟩
        exact ⟨⟨h1.symm, h3.symm⟩, by omega, by omega, h2.symm⟩
      · rintro ⟨⟨h1, h2⟩, h3, h4, h5⟩
        exact ⟨h1.symm, h5.symm, h2.symm⟩

/-! ### Counts and first places -/
def cnt (M : Nat → Nat) (Cl : Nat → Int) (C i K : Nat) : Nat := (Ev M Cl C i K).length
def Fp (M : Nat → Nat) (Cl : Nat → Int) (C N : Nat) : Nat → Nat
  | 0 => 0
  | i + 1 => Fp M Cl C N i + cnt M Cl C i N
def okE (Cl : Nat → Int) (C k : Nat) : Bool := decide (0 ≤ Cl k ∧ Cl k < (C : Int))

theorem Ev_succ (M : Nat → Nat) (Cl : Nat → Int) (C i K : Nat) : Ev M Cl C i (K + 1) = if okE Cl C K = true ∧ M K = i then Ev M Cl C i K ++ [K] else Ev M Cl C i K := by
  unfold Ev
  rw [List.range_succ, List.filter_append]
  by_cases h : okE Cl C K = true ∧ M K = i
  · rw [if_pos h]
    have : decide (0 ≤ Cl K ∧ Cl K < (C : Int) ∧ M K = i) = true := by simp [okE] at h ⊢; omega
    simp only [List.filter_cons, this, if_true, List.filter_nil]
  · rw [if_neg h]
    have : decide (0 ≤ Cl K ∧ Cl K < (C : Int) ∧ M K = i) = false := by simp [okE] at h ⊢; omega
    simp only [List.filter_cons, this, List.filter_nil]; simp
theorem cnt_succ (M : Nat → Nat) (Cl : Nat → Int) (C i K : Nat) : cnt M Cl C i (K + 1) = cnt M Cl C i K + if okE Cl C K = true ∧ M K = i then 1 else 0 := by
  unfold cnt
  rw [Ev_succ]
  split <;> simp
theorem cnt_mono (M : Nat → Nat) (Cl : Nat → Int) (C i K : Nat) : ∀ N, K ≤ N → cnt M Cl C i K ≤ cnt M Cl C i N := by
  intro N h
  induction N with
  | zero => have : K = 0 := by omega
            subst this; exact Nat.le_refl _
  | succ N ih =>
    by_cases e : K = N + 1
    · subst e; exact Nat.le_refl _
    · have := ih (by omega); have := cnt_succ M Cl C i N; omega
theorem cnt_le (M : Nat → Nat) (Cl : Nat → Int) (C i K : Nat) : cnt M Cl C i K ≤ K := by
  unfold cnt Ev
  have := List.length_filter_le (fun k => decide (0 ≤ Cl k ∧ Cl k < (C : Int) ∧ M k = i)) (List.range K)
  simpa using this
theorem Fp_mono (M : Nat → Nat) (Cl : Nat → Int) (C N i : Nat) : ∀ j, i ≤ j → Fp M Cl C N i ≤ Fp M Cl C N j := by
  intro j h
  induction j with
  | zero => have : i = 0 := by omega
            subst this; exact Nat.le_refl _
  | succ j ih =>
    by_cases e : i = j + 1
    · subst e; exact Nat.le_refl _
    · have := ih (by omega); rw [Fp]; omega
theorem Ev_mem (M : Nat → Nat) (Cl : Nat → Int) (C i K k : Nat) (h : k ∈ Ev M Cl C i K) : k < K ∧ okE Cl C k = true ∧ M k = i := by
  have := List.mem_filter.1 h
  refine ⟨List.mem_range.1 this.1, ?_⟩
  have h2 := this.2
  simp [okE] at h2 ⊢
  exact ⟨⟨h2.1, h2.2.1⟩, h2.2.2⟩
theorem Ev_get_lt (M : Nat → Nat) (Cl : Nat → Int) (C i K t : Nat) (h : t < cnt M Cl C i K) : (Ev M Cl C i K).getD t 0 < K ∧ okE Cl C ((Ev M Cl C i K).getD t 0) = true ∧ M ((Ev M Cl C i K).getD t 0) = i := by
  have e : (Ev M Cl C i K).getD t 0 = (Ev M Cl C i K)[t] := by rw [List.getD_eq_getElem?_getD, List.getElem?_eq_getElem h]; rfl
  rw [e]
  exact Ev_mem _ _ _ _ _ _ (List.getElem_mem h)
theorem sum_cnt (M : Nat → Nat) (Cl : Nat → Int) (C n : Nat) : ∀ N, Fp M Cl C N n ≤ N := by
  intro N
  induction N with
  | zero =>
    have : ∀ j, Fp M Cl C 0 j = 0 := fun j => by induction j with | zero => rfl | succ j ih => rw [Fp, ih]; rfl
    rw [this]; exact Nat.le_refl _
  | succ N ih =>
    have : ∀ j, Fp M Cl C (N + 1) j ≤ Fp M Cl C N j + (if M N < j then 1 else 0) := fun j => by
      induction j with
      | zero => simp [Fp]
      | succ j ih =>
        rw [Fp, Fp, cnt_succ]
        by_cases h1 : M N = j
        · rw [if_neg (by omega)] at ih
          rw [if_pos (show M N < j + 1 by omega)]
          split <;> omega
        · rw [if_neg (fun h => h1 h.2)]
          by_cases h2 : M N < j
          · rw [if_pos h2] at ih; rw [if_pos (by omega)]; omega
          · rw [if_neg h2] at ih; rw [if_neg (by omega)]; omega
    have := this n
    split at this <;> omega

/-! ### One insertion, index by index -/
theorem getD_ins (L : List Nat) (x b t : Nat) (hb : b ≤ L.length) : (L.take b ++ x :: L.drop b).getD t 0 = if t < b then L.getD t 0 else if t = b then x else L.getD (t - 1) 0 := by
  have hl : (L.take b).length = b := by simp [hb]
  simp only [List.getD_eq_getElem?_getD]
  by_cases h1 : t < b
  · rw [if_pos h1, List.getElem?_append_left (by omega), List.getElem?_take, if_pos h1]
  · rw [if_neg h1, List.getElem?_append_right (by omega), hl]
    by_cases h2 : t = b
    · subst h2; simp
    · rw [if_neg h2]
      obtain ⟨u, hu⟩ : ∃ u, t - b = u + 1 := ⟨t - b - 1, by omega⟩
      rw [hu, List.getElem?_cons_succ, List.getElem?_drop]
      rw [show b + u = t - 1 by omega]

/-- Before place m the segment is sorted, from m on it is as it was. -/
def Half (key : Nat → Int) (E : List Nat) (Q lo m : Nat) (o : Nat → Nat) : Prop :=
  (∀ t, t < m → t < E.length → o (lo + t) = (Bk key (E.take m) Q).getD t 0) ∧ ∀ t, m ≤ t → t < E.length → o (lo + t) = E.getD t 0

theorem ins_step {key : Nat → Int} {E : List Nat} {Q lo m b : Nat} {o o' : Nat → Nat} (h : Half key E Q lo m o) (hm : m < E.length) (hk : ∀ k ∈ E, 0 ≤ key k ∧ key k < (Q : Int)) (hb : b ≤ m)
    (hgt : ∀ j, b ≤ j → j < m → key (o (lo + m)) < key (o (lo + j))) (hle : b = 0 ∨ key (o (lo + (b - 1))) ≤ key (o (lo + m)))
    (ho : ∀ j, o' j = if j < lo + b then o j else if j = lo + b then o (lo + m) else if j ≤ lo + m then o (j - 1) else o j) : Half key E Q lo (m + 1) o' := by
  obtain ⟨h1, h2⟩ := h
  have hx : o (lo + m) = E.getD m 0 := h2 m (Nat.le_refl _) hm
  have hxe : E.getD m 0 = E[m] := by rw [List.getD_eq_getElem?_getD, List.getElem?_eq_getElem hm]; rfl
  have hkx := hk _ (List.getElem_mem hm)
  rw [← hxe, ← hx] at hkx
  obtain ⟨t, ht⟩ := Int.eq_ofNat_of_zero_le hkx.1
  have hlen : (Bk key (E.take m) Q).length = m := by
    rw [bk_length _ _ _ (fun k hk' => hk k (List.mem_of_mem_take hk')), List.length_take]; omega
  have hT : E.take (m + 1) = E.take m ++ [o (lo + m)] := by
    rw [List.take_add_one, List.getElem?_eq_getElem hm, hx, hxe]; rfl
  have hins := ins_law key (E.take m) (o (lo + m)) t Q b ht (by omega) (by omega)
    (fun j hj1 hj2 => by rw [hlen] at hj2; rw [← h1 j hj2 (by omega), ← ht]; exact hgt j hj1 hj2)
    (by
      rcases hle with hle | hle
      · exact .inl hle
      · by_cases hb0 : b = 0
        · exact .inl hb0
        · right; rw [← h1 (b - 1) (by omega) (by omega), ← ht]; exact hle)
  refine ⟨fun u hu1 hu2 => ?_, fun u hu1 hu2 => ?_⟩
  · rw [hT, hins, getD_ins _ _ _ _ (by omega), ho]
    by_cases a1 : u < b
    · rw [if_pos (by omega), if_pos a1, h1 u (by omega) hu2]
    · rw [if_neg (by omega), if_neg a1]
      by_cases a2 : u = b
      · rw [if_pos (by omega), if_pos a2]
      · rw [if_neg (by omega), if_neg a2, if_pos (by omega), ← h1 (u - 1) (by omega) (by omega)]
        congr 1; omega
  · rw [ho, if_neg (by omega), if_neg (by omega), if_neg (by omega), h2 u (by omega) hu2]

theorem half_start {key : Nat → Int} {E : List Nat} {Q lo : Nat} {o : Nat → Nat} (h : ∀ t, t < E.length → o (lo + t) = E.getD t 0) (hk : ∀ k ∈ E, 0 ≤ key k ∧ key k < (Q : Int)) : Half key E Q lo 1 o := by
  by_cases h0 : 0 < E.length
  · refine ins_step (b := 0) (o := o) ⟨fun t ht _ => absurd ht (by omega), fun t _ ht => h t ht⟩ h0 hk (by omega) (fun j _ hj => absurd hj (by omega)) (.inl rfl) (fun j => ?_)
    by_cases a : j = lo
    · subst a; simp
    · by_cases b : j < lo
      · simp [b]
      · simp only [Nat.add_zero]; rw [if_neg b, if_neg a, if_neg (by omega)]
  · exact ⟨fun t _ ht => absurd ht (by omega), fun t _ ht => absurd ht (by omega)⟩

/-- WHAT THE LAW COMPARES: the parts, and the parts of the sorted entries. -/
theorem sorted_parts {M : Nat → Nat} {Cl Pt : Nat → Int} {An : Nat → Bool} {N C i lo m : Nat} {o : Nat → Nat} (h : Half (keyZ Cl An) (Ev M Cl C i N) (2 * C) lo m o) (hm : cnt M Cl C i N ≤ m)
    (hk : ∀ k ∈ Ev M Cl C i N, 0 ≤ keyZ Cl An k ∧ keyZ Cl An k < ((2 * C : Nat) : Int)) :
    (partsTo (lTo M Cl Pt An N false i) (lTo M Cl Pt An N true i) C).length = cnt M Cl C i N ∧ ∀ t, t < cnt M Cl C i N → (partsTo (lTo M Cl Pt An N false i) (lTo M Cl Pt An N true i) C).getD t 0 = Pt (o (lo + t)) := by
  have hl := bk_length _ _ _ hk
  rw [parts_eq M Cl Pt An N C i C (Nat.le_refl _)]
  refine ⟨by rw [List.length_map, hl]; rfl, fun t ht => ?_⟩
  have ht' : t < (Ev M Cl C i N).length := ht
  have e := h.1 t (by omega) ht'
  rw [List.take_of_length_le hm] at e
  rw [e, List.getD_eq_getElem?_getD, List.getElem?_map, List.getD_eq_getElem?_getD, List.getElem?_eq_getElem (show t < (Bk (keyZ Cl An) (Ev M Cl C i N) (2 * C)).length by omega)]
  rfl
theorem key_ok {M : Nat → Nat} {Cl : Nat → Int} {An : Nat → Bool} {N C i : Nat} : ∀ k ∈ Ev M Cl C i N, 0 ≤ keyZ Cl An k ∧ keyZ Cl An k < ((2 * C : Nat) : Int) := by
  intro k hk
  have h := (Ev_mem _ _ _ _ _ _ hk).2.1
  simp only [okE, decide_eq_true_eq] at h
  unfold keyZ
  split <;> omega

/-! ### The tables -/
def upd (o : Nat → Nat) (p x : Nat) : Nat → Nat := fun j => if j = p then x else o j
def cA (M : Nat → Nat) (Cl : Nat → Int) (C k j : Nat) : Nat := if j = 0 then 0 else cnt M Cl C (j - 1) k
def pA (M : Nat → Nat) (Cl : Nat → Int) (C N i j : Nat) : Nat := if j < i then Fp M Cl C N j else cA M Cl C N j
theorem cA_yes {M : Nat → Nat} {Cl : Nat → Int} {C k : Nat} (h : okE Cl C k = true) (j : Nat) : upd (cA M Cl C k) (M k + 1) (cA M Cl C k (M k + 1) + 1) j = cA M Cl C (k + 1) j := by
  unfold upd cA
  by_cases e : j = M k + 1
  · subst e; simp [cnt_succ, h]
  · rw [if_neg e]
    by_cases e0 : j = 0
    · simp [e0]
    · rw [if_neg e0, if_neg e0, cnt_succ, if_neg (by omega)]; rfl
theorem cA_no {M : Nat → Nat} {Cl : Nat → Int} {C k : Nat} (h : okE Cl C k = false) (j : Nat) : cA M Cl C k j = cA M Cl C (k + 1) j := by
  unfold cA
  split
  · rfl
  · rw [cnt_succ, if_neg (by simp [h])]; rfl
theorem cA_zero (M : Nat → Nat) (Cl : Nat → Int) (C j : Nat) : cA M Cl C 0 j = 0 := by
  unfold cA; split <;> rfl
theorem cA_le (M : Nat → Nat) (Cl : Nat → Int) (C k j : Nat) : cA M Cl C k j ≤ k := by
  unfold cA; split
  · omega
  · exact cnt_le _ _ _ _ _
theorem pA_start (M : Nat → Nat) (Cl : Nat → Int) (C N j : Nat) : cA M Cl C N j = pA M Cl C N 1 j := by
  unfold pA
  by_cases h : j < 1
  · have : j = 0 := by omega
    subst this; rfl
  · rw [if_neg h]
theorem pA_step (M : Nat → Nat) (Cl : Nat → Int) (C N i : Nat) (hi : 1 ≤ i) (j : Nat) : upd (pA M Cl C N i) i (pA M Cl C N i i + pA M Cl C N i (i - 1)) j = pA M Cl C N (i + 1) j := by
  unfold upd
  by_cases e : j = i
  · subst e
    obtain ⟨u, rfl⟩ : ∃ u, j = u + 1 := ⟨j - 1, by omega⟩
    simp only [pA, cA, if_true, Nat.lt_irrefl, if_false, Nat.add_sub_cancel, Nat.lt_succ_self, Nat.succ_ne_zero]
    rw [Fp]; omega
  · rw [if_neg e]
    unfold pA
    by_cases h : j < i
    · rw [if_pos h, if_pos (by omega)]
    · rw [if_neg h, if_neg (by omega)]

theorem pA_le (M : Nat → Nat) (Cl : Nat → Int) (C N i j : Nat) : pA M Cl C N i j ≤ N := by
  unfold pA; split
  · exact sum_cnt M Cl C j N
  · exact cA_le _ _ _ _ _
theorem pA_end (M : Nat → Nat) (Cl : Nat → Int) (C N m j : Nat) (h : j < m) : pA M Cl C N m j = Fp M Cl C N j := by
  unfold pA; rw [if_pos h]

/-! ### The filling of 'order' -/
def Filled (M : Nat → Nat) (Cl : Nat → Int) (C N n K : Nat) (o : Nat → Nat) : Prop := ∀ i, i < n → ∀ t, t < cnt M Cl C i K → o (Fp M Cl C N i + t) = (Ev M Cl C i K).getD t 0
def psA (M : Nat → Nat) (Cl : Nat → Int) (C N K i : Nat) : Nat := Fp M Cl C N i + cnt M Cl C i K
theorem fill_lt {M : Nat → Nat} {Cl : Nat → Int} {C N n K : Nat} (hK : K < N) (hM : M K < n) (h : okE Cl C K = true) : psA M Cl C N K (M K) < Fp M Cl C N n := by
  have h1 := cnt_mono M Cl C (M K) (K + 1) N (by omega)
  rw [cnt_succ, if_pos ⟨h, rfl⟩] at h1
  have h2 := Fp_mono M Cl C N (M K + 1) n (by omega)
  rw [Fp] at h2
  unfold psA
  omega
theorem fill_yes {M : Nat → Nat} {Cl : Nat → Int} {C N n K : Nat} {o : Nat → Nat} (hf : Filled M Cl C N n K o) (hK : K < N) (hM : M K < n) (h : okE Cl C K = true) : Filled M Cl C N n (K + 1) (upd o (psA M Cl C N K (M K)) K) := by
  intro i hi t ht
  have h1 := cnt_mono M Cl C (M K) (K + 1) N (by omega)
  rw [cnt_succ, if_pos ⟨h, rfl⟩] at h1
  have h3 := cnt_mono M Cl C i (K + 1) N (by omega)
  by_cases e : M K = i
  · subst e
    have hE : Ev M Cl C (M K) (K + 1) = Ev M Cl C (M K) K ++ [K] := by rw [Ev_succ, if_pos ⟨h, rfl⟩]
    rw [cnt_succ, if_pos ⟨h, rfl⟩] at ht
    rw [hE]
    unfold upd psA
    by_cases e2 : t = cnt M Cl C (M K) K
    · subst e2
      rw [if_pos rfl]
      unfold cnt
      rw [List.getD_eq_getElem?_getD, List.getElem?_append_right (Nat.le_refl _)]
      simp
    · have ht' : t < (Ev M Cl C (M K) K).length := by
        show t < cnt M Cl C (M K) K
        omega
      rw [if_neg (by omega), hf (M K) hi t ht', List.getD_eq_getElem?_getD, List.getD_eq_getElem?_getD, List.getElem?_append_left ht']
  · have hE : Ev M Cl C i (K + 1) = Ev M Cl C i K := by rw [Ev_succ, if_neg (fun hh => e hh.2)]
    have hc : cnt M Cl C i (K + 1) = cnt M Cl C i K := by unfold cnt; rw [hE]
    rw [hc] at ht h3
    rw [hE]
    have hne : Fp M Cl C N i + t ≠ Fp M Cl C N (M K) + cnt M Cl C (M K) K := by
      rcases Nat.lt_or_gt_of_ne e with hlt | hgt
      · have := Fp_mono M Cl C N (M K + 1) i (by omega)
        rw [Fp] at this
        omega
      · have := Fp_mono M Cl C N (i + 1) (M K) (by omega)
        rw [Fp] at this
        omega
    unfold upd psA
    rw [if_neg hne]
    exact hf i hi t ht
theorem fill_no {M : Nat → Nat} {Cl : Nat → Int} {C N n K : Nat} {o : Nat → Nat} (hf : Filled M Cl C N n K o) (h : okE Cl C K = false) : Filled M Cl C N n (K + 1) o := by
  intro i hi t ht
  rw [cnt_succ, if_neg (by simp [h])] at ht
  rw [Ev_succ, if_neg (by simp [h])]
  exact hf i hi t (by omega)
theorem ps_yes {M : Nat → Nat} {Cl : Nat → Int} {C N K : Nat} (h : okE Cl C K = true) (j : Nat) : upd (psA M Cl C N K) (M K) (psA M Cl C N K (M K) + 1) j = psA M Cl C N (K + 1) j := by
  unfold upd psA
  rw [cnt_succ]
  by_cases e : j = M K
  · subst e; rw [if_pos rfl, if_pos ⟨h, rfl⟩]; omega
  · rw [if_neg e, if_neg (fun hh => e hh.2.symm)]; rfl
theorem ps_no {M : Nat → Nat} {Cl : Nat → Int} {C N K : Nat} (h : okE Cl C K = false) (j : Nat) : psA M Cl C N K j = psA M Cl C N (K + 1) j := by
  unfold psA
  rw [cnt_succ, if_neg (by simp [h])]; rfl
theorem ps_zero (M : Nat → Nat) (Cl : Nat → Int) (C N j : Nat) : Fp M Cl C N j = psA M Cl C N 0 j := rfl

/-- The segments from member i on are as they were filled. -/
def RestZ (M : Nat → Nat) (Cl : Nat → Int) (C N n i : Nat) (o : Nat → Nat) : Prop := ∀ i', i ≤ i' → i' < n → ∀ t, t < cnt M Cl C i' N → o (Fp M Cl C N i' + t) = (Ev M Cl C i' N).getD t 0
theorem rest_keep {M : Nat → Nat} {Cl : Nat → Int} {C N n i : Nat} {o o' : Nat → Nat} (h : RestZ M Cl C N n (i + 1) o) (ho : ∀ j, Fp M Cl C N (i + 1) ≤ j → o' j = o j) : RestZ M Cl C N n (i + 1) o' := by
  intro i' h1 h2 t ht
  have := Fp_mono M Cl C N (i + 1) i' h1
  rw [ho _ (by omega)]
  exact h i' h1 h2 t ht

/-- What the inner loop has done when it stands at b: from b + 1 to a each has moved one to the right. -/
def shifted (o : Nat → Nat) (b a : Nat) : Nat → Nat := fun j => if j ≤ b then o j else if j ≤ a then o (j - 1) else o j
theorem shifted_self (o : Nat → Nat) (a j : Nat) : shifted o a a j = o j := by
  unfold shifted
  split
  · rfl
  · rfl
theorem shifted_step (o : Nat → Nat) (b a : Nat) (h0 : 1 ≤ b) (h : b ≤ a) (j : Nat) : upd (shifted o b a) b (shifted o b a (b - 1)) j = shifted o (b - 1) a j := by
  unfold upd shifted
  rw [if_pos (show b - 1 ≤ b by omega)]
  by_cases e : j = b
  · subst e; rw [if_pos rfl, if_neg (by omega), if_pos h]
  · rw [if_neg e]
    by_cases e1 : j ≤ b
    · rw [if_pos e1, if_pos (show j ≤ b - 1 by omega)]
    · rw [if_neg e1, if_neg (show ¬ j ≤ b - 1 by omega)]
theorem shifted_last (o : Nat → Nat) (b a x j : Nat) : upd (shifted o b a) b x j = if j < b then o j else if j = b then x else if j ≤ a then o (j - 1) else o j := by
  unfold upd shifted
  by_cases e : j = b
  · subst e; simp
  · rw [if_neg e]
    by_cases e1 : j < b
    · rw [if_pos (by omega), if_pos e1]
    · rw [if_neg (by omega), if_neg e1, if_neg e]
theorem ins_fin {key : Nat → Int} {E : List Nat} {Q lo a b : Nat} {o : Nat → Nat} (h : Half key E Q lo (a - lo) o) (hla : lo + 1 ≤ a) (ha : a < lo + E.length) (hk : ∀ k ∈ E, 0 ≤ key k ∧ key k < (Q : Int)) (hb : lo ≤ b) (hba : b ≤ a)
    (hgt : ∀ j, b ≤ j → j < a → key (o a) < key (o j)) (hle : b = lo ∨ key (o (b - 1)) ≤ key (o a)) : Half key E Q lo (a + 1 - lo) (upd (shifted o b a) b (o a)) := by
  obtain ⟨u, rfl⟩ : ∃ u, a = lo + u := ⟨a - lo, by omega⟩
  obtain ⟨v, rfl⟩ : ∃ v, b = lo + v := ⟨b - lo, by omega⟩
  rw [show lo + u - lo = u by omega] at h
  rw [show lo + u + 1 - lo = u + 1 by omega]
  refine ins_step (b := v) h (by omega) hk (by omega) (fun j h1 h2 => hgt (lo + j) (by omega) (by omega)) ?_ (fun j => shifted_last _ _ _ _ _)
  rcases hle with hle | hle
  · exact .inl (by omega)
  · by_cases hv : v = 0
    · exact .inl hv
    · right
      rw [show lo + (v - 1) = lo + v - 1 by omega]
      exact hle
theorem shifted_lt {o : Nat → Nat} {b a T N x : Nat} (h : ∀ j, j < T → o j < N) (hx : x < N) : ∀ j, j < T → upd (shifted o b a) b x j < N := fun j hj => by
  rw [shifted_last]
  split
  · exact h j hj
  · split
    · exact hx
    · split
      · exact h _ (by omega)
      · exact h j hj
theorem shifted_lt' {o : Nat → Nat} {b a T N : Nat} (h : ∀ j, j < T → o j < N) : ∀ j, j < T → shifted o b a j < N := fun j hj => by
  unfold shifted
  split
  · exact h j hj
  · split
    · exact h _ (by omega)
    · exact h j hj
theorem shifted_far {o : Nat → Nat} {b a x j : Nat} (hb : b ≤ a) (h : a < j) : upd (shifted o b a) b x j = o j := by
  rw [shifted_last, if_neg (by omega), if_neg (by omega), if_neg (by omega)]
theorem shifted_low {o : Nat → Nat} {b a j : Nat} (h : j ≤ b) : shifted o b a j = o j := by
  unfold shifted; rw [if_pos h]
end Go.Proofs.Qxb6000857aMods.SortP
