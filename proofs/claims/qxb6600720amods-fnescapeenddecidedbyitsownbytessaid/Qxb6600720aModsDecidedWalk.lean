/-
  THE WALK of FnEscapeEndDecidedByItsOwnBytes (function 7).
-/
import Derived.Test.Qxb6600720aModsEscWalks
import Derived.RegionTactic
namespace Go.Proofs.Qxb6600720aMods.DecidedW
open Go.RowKit EscP Mem EscW
set_option linter.unusedVariables false

def IsRow (k : IntKind) (w : World) (a : Option Addr) (len cap : Nat) (zs : List Int) : Prop :=
  (a = none ∧ len = 0 ∧ cap = 0 ∧ zs = []) ∨
  ∃ x, a = some x ∧ len ≤ cap ∧ cap ≤ maxLen ∧ zs.length = cap ∧ (∀ i, i < zs.length → w.cell? (x.add i) = some (.int k (zs.getD i 0))) ∧ ∀ n ∈ zs, (Lit.int k n).wf = true

/-- The bytes l lie at a, if there are any. -/
def Src (w : World) (a : Option Addr) (l : List Int) : Prop := 0 < l.length → ∃ ad, a = some ad ∧ ∀ j, j < l.length → w.cell? (ad.add j) = some (.int .u8 (l.getD j 0))

theorem Src.below {w w' : World} {a : Option Addr} {l : List Int} (h : Src w a l) (hb : Below w.heap.size w w') : Src w' a l := by
  intro h0
  obtain ⟨ad, rfl, hc⟩ := h h0
  exact ⟨ad, rfl, fun j hj => by rw [hb.cell (cell_lt (hc j hj))]; exact hc j hj⟩

theorem IsRow.below {w w' : World} {a : Option Addr} {n c : Nat} {z : List Int} (h : IsRow .u8 w a n c z) (hb : Below w.heap.size w w') : IsRow .u8 w' a n c z := by
  rcases h with h | ⟨x, h1, h2, h3, h4, hc, h5⟩
  · exact .inl h
  · exact .inr ⟨x, h1, h2, h3, h4, fun j hj => by rw [hb.cell (cell_lt (hc j hj))]; exact hc j hj, h5⟩

theorem Bytes.src {w : World} {b off : Nat} {l : List Int} (h : Bytes w b off l) : Src w (some ⟨b, off, none⟩) l := by
  intro _
  refine ⟨_, rfl, fun j hj => ?_⟩
  have := h j hj
  unfold Addr.add
  split <;> simp_all

/-- zzClone, of whatever slice: what comes back bears the same bytes. -/
theorem clone_any (a : Option Addr) (len cap : Nat) (z : List Int) (w : World) (h : IsRow .u8 w a len cap z) (hm : len ≤ 1048576) :
    Calls Trym.prog 12 #[.slice a len cap] w fun e w' => ∃ a' : Option Addr, e = .returned (.slice a' len len) ∧ Below w.heap.size w w' ∧ Src w' a' (z.take len) := by
  rcases h with ⟨rfl, rfl, rfl, rfl⟩ | ⟨x, rfl, hl, _, hz, hc, _⟩
  · refine (clone_nil w).mono ?_
    rintro e w' ⟨rfl, rfl⟩
    exact ⟨none, rfl, Below.refl _ _, fun h => absurd h (by simp)⟩
  · refine (clone_row x len cap z w hl hm hz hc).mono ?_
    rintro e w' ⟨rfl, hb, hbl, _⟩
    exact ⟨_, rfl, hb, Bytes.src hbl.bytes⟩

/-- A copy into a row of the call's own. -/
theorem copy_any (w : World) (g off : Nat) (cur : List Value) (a dp : Option Addr) (dLen dCap p c : Nat) (l : List Int) (hl : l.length = p) (hpl : p ≤ dLen) (hdp : 0 < p → dp = some ⟨g, off, none⟩)
    (hg : w.heap[g]? = some (.cells cur.toArray 5 (0, 0))) (hsrc : Src w a l) (hfit : off + p ≤ cur.length) (B : Nat) (w0 : World) (hb : Below B w0 w) (hBg : B ≤ g) :
    ∃ w', Sem.run Trym.prog (Builtin.copy_ #[22, 22] 3 #[.slice dp dLen dCap, .slice a p c]) w = .ok (.int .i64 (p : Int)) w' ∧ w'.heap[g]? = some (.cells (splice cur off (cells l)).toArray 5 (0, 0)) ∧ Below B w0 w' := by
  by_cases h0 : p = 0
  · subst h0
    obtain rfl : l = [] := List.eq_nil_of_length_eq_zero hl
    refine ⟨w, ?_, ?_, hb⟩
    · exact run_copy_none (P := Trym.prog) w 22 22 3 5 dp a dLen dCap 0 c Trym.underlying22 size5 (by simp)
    · simpa [splice, cells] using hg
  · obtain rfl := hdp (by omega)
    obtain ⟨ad, rfl, hc⟩ := hsrc (by omega)
    have hlen : (cells l).length = p := by rw [cells_length]; exact hl
    have h := run_copy_row (P := Trym.prog) w 22 22 3 5 g off dLen dCap ad p c cur.toArray 5 (cells l) Trym.underlying22 size5 hg
      (by rw [hlen]; exact (Nat.min_eq_left hpl).symm) (fun j v hj => by
        have hjl : j < l.length := by have := (List.getElem?_eq_some_iff.1 hj).1; omega
        rw [hc j hjl]
        simp [cells, hjl] at hj
        simp [List.getD, hjl, hj]) (by rw [hlen]; simpa using hfit) (cells_one _)
    rw [hlen] at h
    refine ⟨_, h, ?_, below_setRow hb hBg _⟩
    rw [setRow_heap w g _ _ 5 _ hg]
    simp [splice, hlen]

theorem zz_at (b off n cap i E : Nat) (o : Bool) (l : List Int) (hl : l.length = n) (hi : i < n) (hm : n ≤ 1048576) (w : World) (hc : Bytes w b off l) (hE : esc (l.drop (i + 1)) = (E, o)) :
    Calls Trym.prog 18 #[.slice (some ⟨b, off, none⟩) n cap, .int .i64 i] w fun e w' => e = .returned (.tuple #[.int .i64 ((i : Int) + 1 + (E : Int)), .bool o]) ∧ w' = w := by
  refine (zz_any b off n cap i l hl hi hm w hc).mono ?_
  rintro e w' ⟨rfl, rfl⟩
  exact ⟨by unfold ans; rw [hE], rfl⟩

/-- zzBytes. -/
theorem bytes_yes (a0 a2 a3 : Option Addr) (n0 c0 n2 c2 n3 c3 : Nat) (i : Int) (h : n0 + n2 + n3 ≤ 1048576) (w : World) :
    Calls Trym.prog 22 #[.slice a0 n0 c0, .int .i64 i, .slice a2 n2 c2, .slice a3 n3 c3] w fun e w' => e = .returned (.bool true) ∧ w' = w := by
  go_enter Trym.func22, Trym.ntmps22
  go_wp2
  go_ret
  exact ⟨rfl, rfl⟩

theorem bytes_no (a0 a2 a3 : Option Addr) (n0 c0 n2 c2 n3 c3 : Nat) (i : Int) (h : 1048576 < n0 + n2 + n3) (h0 : n0 ≤ 9223372036854775807) (h2 : n2 ≤ 9223372036854775807) (h3 : n3 ≤ 9223372036854775807) (w : World) :
    Calls Trym.prog 22 #[.slice a0 n0 c0, .int .i64 i, .slice a2 n2 c2, .slice a3 n3 c3] w fun e w' => e = .returned (.bool false) ∧ w' = w := by
  go_enter Trym.func22, Trym.ntmps22
  go_wp2
  all_goals
    go_ret
    exact ⟨rfl, rfl⟩

theorem long (a0 a2 a3 : Option Addr) (n0 c0 n2 c2 n3 c3 : Nat) (i : Int) (h : 1048576 < n0 + n2 + n3) (h0 : n0 ≤ 9223372036854775807) (h2 : n2 ≤ 9223372036854775807) (h3 : n3 ≤ 9223372036854775807) (w : World) :
    Calls Trym.prog 7 #[.slice a0 n0 c0, .int .i64 i, .slice a2 n2 c2, .slice a3 n3 c3] w fun e w' => e = .returned (.bool true) ∧ w' = w := by
  go_enter Trym.func7, Trym.ntmps7
  go_wp2_with fail
  refine (bytes_no a0 a2 a3 n0 c0 n2 c2 n3 c3 i h h0 h2 h3 _).mono ?_
  rintro e w' ⟨rfl, rfl⟩
  go_wp2
  go_ret
  exact ⟨rfl, rfl⟩

theorem out (a0 a2 a3 : Option Addr) (n0 c0 n2 c2 n3 c3 : Nat) (i : Int) (h : n0 + n2 + n3 ≤ 1048576) (hi : i < 0 ∨ (0 ≤ i ∧ n0 ≤ i)) (w : World) :
    Calls Trym.prog 7 #[.slice a0 n0 c0, .int .i64 i, .slice a2 n2 c2, .slice a3 n3 c3] w fun e w' => e = .returned (.bool true) ∧ w' = w := by
  rcases hi with hi | ⟨hi0, hi⟩
  all_goals
    go_enter Trym.func7, Trym.ntmps7
    go_wp2_with fail
    refine (bytes_yes a0 a2 a3 n0 c0 n2 c2 n3 c3 i h _).mono ?_
    rintro e w' ⟨rfl, rfl⟩
    go_wp2
    go_ret
    exact ⟨rfl, rfl⟩

/-- No escape, and data is at its end: nothing is asked. -/
theorem at_end (x : Addr) (a2 a3 : Option Addr) (n c i E : Nat) (z z2 z3 l : List Int) (p c2 q c3 : Nat) (w : World) (hl : n ≤ c) (hm : n + p + q ≤ 1048576) (hz : z.length = c) (hll : l.length = n) (HLZ : Hid (l = z.take n))
    (hc : Hid (∀ i, i < z.length → w.cell? (x.add i) = some (.int .u8 (z.getD i 0)))) (H2 : Hid (IsRow .u8 w a2 p c2 z2)) (H3 : Hid (IsRow .u8 w a3 q c3 z3)) (hi : i < n)
    (HE : Hid (esc (l.drop (i + 1)) = (E, false))) (hEn : n ≤ i + 1 + E) (hE5 : E ≤ 5) :
    Calls Trym.prog 7 #[.slice (some x) n c, .int .i64 i, .slice a2 p c2, .slice a3 q c3] w fun e w' => e = .returned (.bool true) ∧ Below w.heap.size w w' := by
  go_enter Trym.func7, Trym.ntmps7
  go_wp2_with fail
  refine (bytes_yes (some x) a2 a3 n c p c2 q c3 i hm _).mono ?_
  rintro e w' ⟨rfl, rfl⟩
  go_wp2_with fail
  refine (clone_row x n c z _ hl (by omega) hz hc.out).mono ?_
  rintro e w1 ⟨rfl, hb1, hbl, hs1⟩
  rw [← HLZ.out] at hbl
  have HB1 : Hid (Below w'.heap.size w' w1) := hb1
  have HBl : Hid (Block w1 w'.heap.size l) := hbl
  clear hb1 hbl
  go_wp2_with fail
  refine (clone_any a2 p c2 z2 _ (H2.out.below HB1.out) (by omega)).mono ?_
  rintro e w2 ⟨b2, rfl, hb2, hs2⟩
  have HB2 : Hid (Below w'.heap.size w' w2) := HB1.out.trans (hb2.mono (by omega))
  have HBl2 : Hid (Block w2 w'.heap.size l) := HBl.out.below hb2 (by omega)
  have HS2 : Hid (Src w2 b2 (z2.take p)) := hs2
  have hsz2 := hb2.size
  clear hb2 hs2 HBl
  go_wp2_with fail
  refine (clone_any a3 q c3 z3 _ (H3.out.below HB2.out) (by omega)).mono ?_
  rintro e w3 ⟨b3, rfl, hb3, hs3⟩
  have HB3 : Hid (Below w'.heap.size w' w3) := HB2.out.trans (hb3.mono (by omega))
  have HBl3 : Hid (Block w3 w'.heap.size l) := HBl2.out.below hb3 (by omega)
  have HS3 : Hid (Src w3 b3 (z3.take q)) := hs3
  have HS23 : Hid (Src w3 b2 (z2.take p)) := HS2.out.below hb3
  have hsz3 := hb3.size
  clear hb3 hs3 HBl2 HS2
  go_wp2_with fail
  refine (zz_at _ 0 n n i E _ l hll hi (by omega) _ HBl3.out.bytes HE.out).mono ?_
  rintro e w4 ⟨rfl, rfl⟩
  go_wp2_with fail
  go_ret
  exact ⟨rfl, HB3.out⟩

theorem hide {p : Prop} (h : p) : Hid p := h

theorem IsRow.len {w : World} {a : Option Addr} {n c : Nat} {z : List Int} (h : IsRow .u8 w a n c z) : (z.take n).length = n := by
  rcases h with ⟨_, rfl, _, rfl⟩ | ⟨x, _, h2, _, h4, _⟩
  · rfl
  · simp; omega

theorem copy_third (w : World) (g off : Nat) (cur : List Value) (a : Option Addr) (p : Nat) (l : List Int) (hl : l.length = p)
    (hg : w.heap[g]? = some (.cells cur.toArray 5 (0, 0))) (hsrc : Src w a l) (hfit : off + p ≤ cur.length) (B : Nat) (w0 : World) (hb : Below B w0 w) (hBg : B ≤ g) :
    ∃ w', (∀ (dp : Option Addr) (dLen dCap : Nat), (0 < p → dp = some ⟨g, off, none⟩ ∧ p ≤ dLen) → Sem.run Trym.prog (Builtin.copy_ #[22, 22] 3 #[.slice dp dLen dCap, .slice a p p]) w = .ok (.int .i64 (p : Int)) w') ∧
      w'.heap[g]? = some (.cells (splice cur off (cells l)).toArray 5 (0, 0)) ∧ Below B w0 w' := by
  by_cases h0 : p = 0
  · subst h0
    obtain rfl : l = [] := List.eq_nil_of_length_eq_zero hl
    refine ⟨w, fun dp dLen dCap _ => ?_, ?_, hb⟩
    · exact run_copy_none (P := Trym.prog) w 22 22 3 5 dp a dLen dCap 0 0 Trym.underlying22 size5 (by simp)
    · simpa [splice, cells] using hg
  · obtain ⟨ad, rfl, hc⟩ := hsrc (by omega)
    have hlen : (cells l).length = p := by rw [cells_length]; exact hl
    refine ⟨w.setRow g (cur.take off ++ cells l ++ cur.drop (off + p)).toArray, fun dp dLen dCap hd => ?_, ?_, below_setRow hb hBg _⟩
    · obtain ⟨rfl, hpl⟩ := hd (by omega)
      have h := run_copy_row (P := Trym.prog) w 22 22 3 5 g off dLen dCap ad p p cur.toArray 5 (cells l) Trym.underlying22 size5 hg
        (by rw [hlen]; exact (Nat.min_eq_left hpl).symm) (fun j v hj => by
          have hjl : j < l.length := by have := (List.getElem?_eq_some_iff.1 hj).1; omega
          rw [hc j hjl]
          simp [cells, hjl] at hj
          simp [List.getD, hjl, hj]) (by rw [hlen]; simpa using hfit) (cells_one _)
      rw [hlen] at h
      exact h
    · rw [setRow_heap w g _ _ 5 _ hg]
      simp [splice, hlen]

theorem esc_mid (a l b : List Int) (i K : Nat) {p : Nat} (ha : a.length = p) (hK : 1 ≤ K) (hi : i + K ≤ l.length) : esc ((a ++ ((l.drop i).take K ++ b)).drop (p + 1)) = esc ((l.drop (i + 1)).take (K - 1) ++ b) := by
  have e1 : (a ++ ((l.drop i).take K ++ b)).drop (p + 1) = ((l.drop i).take K ++ b).drop 1 := by
    rw [List.drop_append, List.drop_eq_nil_of_le (by omega)]; simp [ha]
  rw [e1, List.drop_append_of_le_length (by simp; omega), List.drop_take]
  simp

set_option maxHeartbeats 1000000 in
theorem main_yes (x : Addr) (a2 a3 : Option Addr) (n c i E : Nat) (z z2 z3 l : List Int) (p c2 q c3 K T : Nat) (w : World) (hl : n ≤ c) (hm : n + p + q ≤ 1048576) (hz : z.length = c) (hll : l.length = n) (HLZ : Hid (l = z.take n))
    (hc : Hid (∀ i, i < z.length → w.cell? (x.add i) = some (.int .u8 (z.getD i 0)))) (H2 : Hid (IsRow .u8 w a2 p c2 z2)) (H3 : Hid (IsRow .u8 w a3 q c3 z3)) (hi : i < n)
    (HE : Hid (esc (l.drop (i + 1)) = (E, true))) (hEn : i + 1 + E ≤ n) (hE5 : E ≤ 5) (HK : Hid (K = E + 1)) (HT : Hid (T = p + K + q)) (hT : T ≤ 1048576) :
    Calls Trym.prog 7 #[.slice (some x) n c, .int .i64 i, .slice a2 p c2, .slice a3 q c3] w fun e w' => e = .returned (.bool true) ∧ Below w.heap.size w w' := by
  go_enter Trym.func7, Trym.ntmps7
  go_wp2_with fail
  refine (bytes_yes (some x) a2 a3 n c p c2 q c3 i hm _).mono ?_
  rintro e w' ⟨rfl, rfl⟩
  go_wp2_with fail
  refine (clone_row x n c z _ hl (by omega) hz hc.out).mono ?_
  rintro e w1 ⟨rfl, hb1, hbl, hs1⟩
  rw [← HLZ.out] at hbl
  have HB1 : Hid (Below w'.heap.size w' w1) := hb1
  have HBl : Hid (Block w1 w'.heap.size l) := hbl
  clear hb1 hbl
  go_wp2_with fail
  refine (clone_any a2 p c2 z2 _ (H2.out.below HB1.out) (by omega)).mono ?_
  rintro e w2 ⟨b2, rfl, hb2, hs2⟩
  have HB2 : Hid (Below w'.heap.size w' w2) := HB1.out.trans (hb2.mono (by omega))
  have HBl2 : Hid (Block w2 w'.heap.size l) := HBl.out.below hb2 (by omega)
  have HS2 : Hid (Src w2 b2 (z2.take p)) := hs2
  have hsz2 := hb2.size
  clear hb2 hs2 HBl
  go_wp2_with fail
  refine (clone_any a3 q c3 z3 _ (H3.out.below HB2.out) (by omega)).mono ?_
  rintro e w3 ⟨b3, rfl, hb3, hs3⟩
  have HB3 : Hid (Below w'.heap.size w' w3) := HB2.out.trans (hb3.mono (by omega))
  have HBl3 : Hid (Block w3 w'.heap.size l) := HBl2.out.below hb3 (by omega)
  have HS3 : Hid (Src w3 b3 (z3.take q)) := hs3
  have HS23 : Hid (Src w3 b2 (z2.take p)) := HS2.out.below hb3
  have hsz3 := hb3.size
  clear hb3 hs3 HBl2 HS2
  go_wp2_with fail
  refine (zz_at _ 0 n n i E _ l hll hi (by omega) _ HBl3.out.bytes HE.out).mono ?_
  rintro e w4 ⟨rfl, rfl⟩
  obtain ⟨i0, hinf, hz0, hz1, hz2⟩ := info_parts info5
  have hmk := run_make (P := Trym.prog) w4 22 5 i0 (.int .u8 0) Trym.underlying22 hinf hz0 .i64 .i64 (T : Int) (T : Int) (by omega) (by omega) (by rw [hz2]; omega) (by omega)
  simp only [hz1, Int.toNat_natCast, Nat.mul_one] at hmk
  obtain ⟨cur, hcur⟩ : ∃ cur : List Value, (madeCells (Value.int .u8 0).cells T) = cur.toArray := ⟨(madeCells (Value.int .u8 0).cells T).toList, by simp⟩
  rw [hcur] at hmk
  have hcl : cur.length = T := by have := congrArg Array.size hcur; simpa [madeCells] using this.symm
  clear hcur hinf hz0 hz1 hz2
  have HG : Hid ((w4.alloc (.cells cur.toArray 5)).heap[w4.heap.size]? = some (.cells cur.toArray 5 (0, 0))) := (MapKept.heap_alloc w4 _).1
  have hll2 : (z2.take p).length = p := H2.out.len
  have hll3 : (z3.take q).length = q := H3.out.len
  have HBA : Hid (Below w4.heap.size w4 (w4.alloc (.cells cur.toArray 5))) := (Below.refl _ _).alloc (Nat.le_refl _) _
  obtain ⟨W1, hcp1, hg1, hb1⟩ := copy_any (w4.alloc (.cells cur.toArray 5)) w4.heap.size 0 cur b2 (some ⟨w4.heap.size, 0, none⟩) T T p p (z2.take p) hll2 (by have := HT.out; omega) (fun _ => rfl) HG.out
    (HS23.out.below HBA.out) (by have := HT.out; omega) w4.heap.size w4 HBA.out (Nat.le_refl _)
  have HG1 : Hid (W1.heap[w4.heap.size]? = some (.cells (splice cur 0 (cells (z2.take p))).toArray 5 (0, 0))) := hg1
  have HBB1 : Hid (Below w4.heap.size w4 W1) := hb1
  clear hg1 hb1
  have hpk : p + K + q ≤ T := by have := HT.out; omega
  have hKn : i + K ≤ n := by have := HK.out; omega
  have hK1 : 1 ≤ K := by have := HK.out; omega
  have HM : Hid (((l.drop i).take K).length = K) := by show _ = _; simp [hll]; omega
  have hsp1 : (splice cur 0 (cells (z2.take p))).length = T := by rw [length_splice _ _ _ (by rw [cells_length, hll2]; omega)]; exact hcl
  obtain ⟨W2, hcp2, hg2, hb2⟩ := copy_any W1.drew w4.heap.size p (splice cur 0 (cells (z2.take p))) (some ⟨w'.heap.size, i, none⟩) (some ⟨w4.heap.size, p, none⟩) (T - p) (T - p) K (n - i) ((l.drop i).take K) HM.out (by omega) (fun _ => rfl) HG1.out
    (Bytes.src (by have := ((HBl3.out.below HBB1.out (by omega)).bytes.drop i).take K; rwa [Nat.zero_add] at this)) (by omega) w4.heap.size w4 HBB1.out.drew (Nat.le_refl _)
  have HG2 : Hid (W2.heap[w4.heap.size]? = some (.cells (splice (splice cur 0 (cells (z2.take p))) p (cells ((l.drop i).take K))).toArray 5 (0, 0))) := hg2
  have HBB2 : Hid (Below w4.heap.size w4 W2) := hb2
  clear hg2 hb2
  have hsp2 : (splice (splice cur 0 (cells (z2.take p))) p (cells ((l.drop i).take K))).length = T := by rw [length_splice _ _ _ (by rw [cells_length, HM.out]; omega)]; exact hsp1
  obtain ⟨W3, hcp3, hg3, hb3⟩ := copy_third W2 w4.heap.size (p + K) (splice (splice cur 0 (cells (z2.take p))) p (cells ((l.drop i).take K))) b3 q (z3.take q) hll3 HG2.out (HS3.out.below HBB2.out) (by omega) w4.heap.size w4 HBB2.out (Nat.le_refl _)
  have HG3 : Hid (Block W3 w4.heap.size (z2.take p ++ ((l.drop i).take K ++ z3.take q))) := by
    show _ = _
    rw [hg3, splice_splice_splice cur _ _ _ p K (by rw [cells_length]; exact hll2) (by rw [cells_length]; exact HM.out) (by rw [cells_length, hll3, hcl]; exact HT.out)]
    simp [cells]
  have HBB3 : Hid (Below w4.heap.size w4 W3) := hb3
  have HC3 := hide hcp3
  clear hg3 hb3 hcp3 hsp1 hsp2
  have HLT : Hid ((z2.take p ++ ((l.drop i).take K ++ z3.take q)).length = T) := by
    show _ = _
    rw [List.length_append, List.length_append, hll2, hll3, HM.out, HT.out]; omega
  have HEE : Hid (esc ((z2.take p ++ ((l.drop i).take K ++ z3.take q)).drop (p + 1)) = (E, true)) := by
    show _ = _
    rw [esc_mid _ _ _ _ _ hll2 hK1 (by rw [hll]; omega)]
    have h1 := HE.out
    have h2 := esc_take_ok (l.drop (i + 1)) (z3.take q) (by rw [h1])
    rw [h1] at h2
    rw [HK.out]; exact h2
  have hfin : (((p : Int) + 1 + (E : Int)) == ((p : Int) + ((i : Int) + 1 + (E : Int)) - (i : Int))) = true := by simp; omega
  clear hll2 hll3 hcl
  go_wp2_with fail
  rw [show ((i : Int) + 1 + (E : Int) - (i : Int)) = (K : Int) by have := HK.out; omega]
  rw [show ((p : Int) + (K : Int) + (q : Int)) = (T : Int) by have := HT.out; omega]
  rw [hmk]
  go_simp
  go_wp2_with fail
  go_region
  by_cases hq : q = 0
  · have hcp3 := fun dp dl dc => HC3.out dp dl dc (fun h => by omega)
    have hTq : T ≤ p + K := by have := HT.out; omega
    have HQ : Hid (q = 0) := hq
    clear hq
    go_wp2_with fail
    refine (zz_at w4.heap.size 0 T T p E _ _ HLT.out (by omega) hT _ HG3.out.bytes HEE.out).mono ?_
    rintro e w5 ⟨rfl, rfl⟩
    go_wp2
    go_ret
    exact ⟨rfl, HB3.out.trans (HBB3.out.mono (by omega))⟩
  · have hcp3 := HC3.out (some ⟨w4.heap.size, p + K, none⟩) (T - (p + K)) (T - (p + K)) (fun h => ⟨rfl, by omega⟩)
    have hq1 : 1 ≤ q := by omega
    clear hq
    go_wp2_with fail
    refine (zz_at w4.heap.size 0 T T p E _ _ HLT.out (by omega) hT _ HG3.out.bytes HEE.out).mono ?_
    rintro e w5 ⟨rfl, rfl⟩
    go_wp2
    go_ret
    exact ⟨rfl, HB3.out.trans (HBB3.out.mono (by omega))⟩

set_option maxHeartbeats 1000000 in
theorem main_no (x : Addr) (a2 a3 : Option Addr) (n c i E : Nat) (z z2 z3 l : List Int) (p c2 q c3 K T : Nat) (w : World) (hl : n ≤ c) (hm : n + p + q ≤ 1048576) (hz : z.length = c) (hll : l.length = n) (HLZ : Hid (l = z.take n))
    (hc : Hid (∀ i, i < z.length → w.cell? (x.add i) = some (.int .u8 (z.getD i 0)))) (H2 : Hid (IsRow .u8 w a2 p c2 z2)) (H3 : Hid (IsRow .u8 w a3 q c3 z3)) (hi : i < n)
    (HE : Hid (esc (l.drop (i + 1)) = (E, false))) (hEn : i + 1 + E < n) (hE5 : E ≤ 5) (HK : Hid (K = E + 2)) (HT : Hid (T = p + K + q)) (hT : T ≤ 1048576) :
    Calls Trym.prog 7 #[.slice (some x) n c, .int .i64 i, .slice a2 p c2, .slice a3 q c3] w fun e w' => e = .returned (.bool true) ∧ Below w.heap.size w w' := by
  go_enter Trym.func7, Trym.ntmps7
  go_wp2_with fail
  refine (bytes_yes (some x) a2 a3 n c p c2 q c3 i hm _).mono ?_
  rintro e w' ⟨rfl, rfl⟩
  go_wp2_with fail
  refine (clone_row x n c z _ hl (by omega) hz hc.out).mono ?_
  rintro e w1 ⟨rfl, hb1, hbl, hs1⟩
  rw [← HLZ.out] at hbl
  have HB1 : Hid (Below w'.heap.size w' w1) := hb1
  have HBl : Hid (Block w1 w'.heap.size l) := hbl
  clear hb1 hbl
  go_wp2_with fail
  refine (clone_any a2 p c2 z2 _ (H2.out.below HB1.out) (by omega)).mono ?_
  rintro e w2 ⟨b2, rfl, hb2, hs2⟩
  have HB2 : Hid (Below w'.heap.size w' w2) := HB1.out.trans (hb2.mono (by omega))
  have HBl2 : Hid (Block w2 w'.heap.size l) := HBl.out.below hb2 (by omega)
  have HS2 : Hid (Src w2 b2 (z2.take p)) := hs2
  have hsz2 := hb2.size
  clear hb2 hs2 HBl
  go_wp2_with fail
  refine (clone_any a3 q c3 z3 _ (H3.out.below HB2.out) (by omega)).mono ?_
  rintro e w3 ⟨b3, rfl, hb3, hs3⟩
  have HB3 : Hid (Below w'.heap.size w' w3) := HB2.out.trans (hb3.mono (by omega))
  have HBl3 : Hid (Block w3 w'.heap.size l) := HBl2.out.below hb3 (by omega)
  have HS3 : Hid (Src w3 b3 (z3.take q)) := hs3
  have HS23 : Hid (Src w3 b2 (z2.take p)) := HS2.out.below hb3
  have hsz3 := hb3.size
  clear hb3 hs3 HBl2 HS2
  go_wp2_with fail
  refine (zz_at _ 0 n n i E _ l hll hi (by omega) _ HBl3.out.bytes HE.out).mono ?_
  rintro e w4 ⟨rfl, rfl⟩
  obtain ⟨i0, hinf, hz0, hz1, hz2⟩ := info_parts info5
  have hmk := run_make (P := Trym.prog) w4 22 5 i0 (.int .u8 0) Trym.underlying22 hinf hz0 .i64 .i64 (T : Int) (T : Int) (by omega) (by omega) (by rw [hz2]; omega) (by omega)
  simp only [hz1, Int.toNat_natCast, Nat.mul_one] at hmk
  obtain ⟨cur, hcur⟩ : ∃ cur : List Value, (madeCells (Value.int .u8 0).cells T) = cur.toArray := ⟨(madeCells (Value.int .u8 0).cells T).toList, by simp⟩
  rw [hcur] at hmk
  have hcl : cur.length = T := by have := congrArg Array.size hcur; simpa [madeCells] using this.symm
  clear hcur hinf hz0 hz1 hz2
  have HG : Hid ((w4.alloc (.cells cur.toArray 5)).heap[w4.heap.size]? = some (.cells cur.toArray 5 (0, 0))) := (MapKept.heap_alloc w4 _).1
  have hll2 : (z2.take p).length = p := H2.out.len
  have hll3 : (z3.take q).length = q := H3.out.len
  have HBA : Hid (Below w4.heap.size w4 (w4.alloc (.cells cur.toArray 5))) := (Below.refl _ _).alloc (Nat.le_refl _) _
  obtain ⟨W1, hcp1, hg1, hb1⟩ := copy_any (w4.alloc (.cells cur.toArray 5)) w4.heap.size 0 cur b2 (some ⟨w4.heap.size, 0, none⟩) T T p p (z2.take p) hll2 (by have := HT.out; omega) (fun _ => rfl) HG.out
    (HS23.out.below HBA.out) (by have := HT.out; omega) w4.heap.size w4 HBA.out (Nat.le_refl _)
  have HG1 : Hid (W1.heap[w4.heap.size]? = some (.cells (splice cur 0 (cells (z2.take p))).toArray 5 (0, 0))) := hg1
  have HBB1 : Hid (Below w4.heap.size w4 W1) := hb1
  clear hg1 hb1
  have hpk : p + K + q ≤ T := by have := HT.out; omega
  have hKn : i + K ≤ n := by have := HK.out; omega
  have hK1 : 1 ≤ K := by have := HK.out; omega
  have HM : Hid (((l.drop i).take K).length = K) := by show _ = _; simp [hll]; omega
  have hsp1 : (splice cur 0 (cells (z2.take p))).length = T := by rw [length_splice _ _ _ (by rw [cells_length, hll2]; omega)]; exact hcl
  obtain ⟨W2, hcp2, hg2, hb2⟩ := copy_any W1.drew w4.heap.size p (splice cur 0 (cells (z2.take p))) (some ⟨w'.heap.size, i, none⟩) (some ⟨w4.heap.size, p, none⟩) (T - p) (T - p) K (n - i) ((l.drop i).take K) HM.out (by omega) (fun _ => rfl) HG1.out
    (Bytes.src (by have := ((HBl3.out.below HBB1.out (by omega)).bytes.drop i).take K; rwa [Nat.zero_add] at this)) (by omega) w4.heap.size w4 HBB1.out.drew (Nat.le_refl _)
  have HG2 : Hid (W2.heap[w4.heap.size]? = some (.cells (splice (splice cur 0 (cells (z2.take p))) p (cells ((l.drop i).take K))).toArray 5 (0, 0))) := hg2
  have HBB2 : Hid (Below w4.heap.size w4 W2) := hb2
  clear hg2 hb2
  have hsp2 : (splice (splice cur 0 (cells (z2.take p))) p (cells ((l.drop i).take K))).length = T := by rw [length_splice _ _ _ (by rw [cells_length, HM.out]; omega)]; exact hsp1
  obtain ⟨W3, hcp3, hg3, hb3⟩ := copy_third W2 w4.heap.size (p + K) (splice (splice cur 0 (cells (z2.take p))) p (cells ((l.drop i).take K))) b3 q (z3.take q) hll3 HG2.out (HS3.out.below HBB2.out) (by omega) w4.heap.size w4 HBB2.out (Nat.le_refl _)
  have HG3 : Hid (Block W3 w4.heap.size (z2.take p ++ ((l.drop i).take K ++ z3.take q))) := by
    show _ = _
    rw [hg3, splice_splice_splice cur _ _ _ p K (by rw [cells_length]; exact hll2) (by rw [cells_length]; exact HM.out) (by rw [cells_length, hll3, hcl]; exact HT.out)]
    simp [cells]
  have HBB3 : Hid (Below w4.heap.size w4 W3) := hb3
  have HC3 := hide hcp3
  clear hg3 hb3 hcp3 hsp1 hsp2
  have HLT : Hid ((z2.take p ++ ((l.drop i).take K ++ z3.take q)).length = T) := by
    show _ = _
    rw [List.length_append, List.length_append, hll2, hll3, HM.out, HT.out]; omega
  have HEE : Hid (esc ((z2.take p ++ ((l.drop i).take K ++ z3.take q)).drop (p + 1)) = (E, false)) := by
    show _ = _
    rw [esc_mid _ _ _ _ _ hll2 hK1 (by rw [hll]; omega)]
    have h1 := HE.out
    have h2 := esc_take_no (l.drop (i + 1)) (z3.take q) (by rw [h1]) (by rw [h1]; simp [hll]; omega)
    rw [h1] at h2
    rw [HK.out]; exact h2
  have hfin : (((p : Int) + 1 + (E : Int)) == ((p : Int) + ((i : Int) + 1 + (E : Int)) - (i : Int))) = true := by simp; omega
  clear hll2 hll3 hcl
  go_wp2_with fail
  rw [show ((i : Int) + 1 + (E : Int) - (i : Int) + 1) = (K : Int) by have := HK.out; omega]
  rw [show ((p : Int) + (K : Int) + (q : Int)) = (T : Int) by have := HT.out; omega]
  rw [hmk]
  go_simp
  go_wp2_with fail
  go_region
  by_cases hq : q = 0
  · have hcp3 := fun dp dl dc => HC3.out dp dl dc (fun h => by omega)
    have hTq : T ≤ p + K := by have := HT.out; omega
    have HQ : Hid (q = 0) := hq
    clear hq
    go_wp2_with fail
    refine (zz_at w4.heap.size 0 T T p E _ _ HLT.out (by omega) hT _ HG3.out.bytes HEE.out).mono ?_
    rintro e w5 ⟨rfl, rfl⟩
    go_wp2
    go_ret
    exact ⟨rfl, HB3.out.trans (HBB3.out.mono (by omega))⟩
  · have hcp3 := HC3.out (some ⟨w4.heap.size, p + K, none⟩) (T - (p + K)) (T - (p + K)) (fun h => ⟨rfl, by omega⟩)
    have hq1 : 1 ≤ q := by omega
    clear hq
    go_wp2_with fail
    refine (zz_at w4.heap.size 0 T T p E _ _ HLT.out (by omega) hT _ HG3.out.bytes HEE.out).mono ?_
    rintro e w5 ⟨rfl, rfl⟩
    go_wp2
    go_ret
    exact ⟨rfl, HB3.out.trans (HBB3.out.mono (by omega))⟩

theorem walk (a0 : Option Addr) (len0 cap0 : Nat) (z0 : List Int) (a1 : Int) (a2 : Option Addr) (len2 cap2 : Nat) (z2 : List Int) (a3 : Option Addr) (len3 cap3 : Nat) (z3 : List Int) (w : World) (w0 : IsRow .u8 w a0 len0 cap0 z0) (w1 : (Lit.int .i64 a1).wf = true) (w2 : IsRow .u8 w a2 len2 cap2 z2) (w3 : IsRow .u8 w a3 len3 cap3 z3) :
    Calls Trym.prog 7 #[.slice a0 len0 cap0, .int .i64 a1, .slice a2 len2 cap2, .slice a3 len3 cap3] w fun e w' => e = .returned (.bool true) ∧ Below w.heap.size w w' := by
  have small : ∀ {a : Option Addr} {n c : Nat} {z : List Int}, IsRow .u8 w a n c z → n ≤ 9223372036854775807 := by
    intro a n c z h
    rcases h with ⟨_, h, _, _⟩ | ⟨x, _, h1, h2, _⟩
    · omega
    · unfold maxLen at h2; omega
  by_cases h1 : 1048576 < len0 + len2 + len3
  · refine (long a0 a2 a3 len0 cap0 len2 cap2 len3 cap3 a1 h1 (small w0) (small w2) (small w3) w).mono ?_
    rintro e w' ⟨rfl, rfl⟩; exact ⟨rfl, Below.refl _ _⟩
  by_cases h2 : a1 < 0 ∨ (0 ≤ a1 ∧ len0 ≤ a1)
  · refine (out a0 a2 a3 len0 cap0 len2 cap2 len3 cap3 a1 (by omega) h2 w).mono ?_
    rintro e w' ⟨rfl, rfl⟩; exact ⟨rfl, Below.refl _ _⟩
  obtain ⟨i, rfl⟩ := Int.eq_ofNat_of_zero_le (show 0 ≤ a1 by omega)
  rcases w0 with ⟨_, rfl, _, _⟩ | ⟨x, rfl, hl, hm, hz, hc, hwz⟩
  · exfalso; omega
  · have hll : (z0.take len0).length = len0 := by simp; omega
    obtain ⟨E, o, hE⟩ : ∃ E o, esc ((z0.take len0).drop (i + 1)) = (E, o) := ⟨_, _, rfl⟩
    have he := esc_le ((z0.take len0).drop (i + 1))
    rw [hE] at he
    have hlen2 : ((z0.take len0).drop (i + 1)).length = len0 - (i + 1) := by simp; omega
    rw [hlen2] at he
    simp only at he
    cases o
    · by_cases hend : len0 ≤ i + 1 + E
      · exact at_end x a2 a3 len0 cap0 i E z0 z2 z3 _ len2 cap2 len3 cap3 w hl (by omega) hz hll rfl hc w2 w3 (by omega) hE hend (by omega)
      · exact main_no x a2 a3 len0 cap0 i E z0 z2 z3 _ len2 cap2 len3 cap3 (E + 2) (len2 + (E + 2) + len3) w hl (by omega) hz hll rfl hc w2 w3 (by omega) hE (by omega) (by omega) rfl rfl (by omega)
    · exact main_yes x a2 a3 len0 cap0 i E z0 z2 z3 _ len2 cap2 len3 cap3 (E + 1) (len2 + (E + 1) + len3) w hl (by omega) hz hll rfl hc w2 w3 (by omega) hE (by omega) (by omega) rfl rfl (by omega)

end Go.Proofs.Qxb6600720aMods.DecidedW
