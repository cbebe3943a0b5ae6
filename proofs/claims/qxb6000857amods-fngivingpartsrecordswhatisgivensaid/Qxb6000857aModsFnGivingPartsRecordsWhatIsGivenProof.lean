/-
  THE PROOF OF 'Rows.FnGivingPartsRecordsWhatIsGivenSaid': the row's step, after the kit's shell for slices and integers, turned to this function's parameters.
-/
import Derived.Test.Qxb6000857aModsRows
import Derived.WalkKit
import Derived.ProofKit
import Derived.OpenShut
import Derived.ChangeOld
import Derived.Below
import Derived.Deep.Matrix
import Derived.Deep.Grids
import Derived.Test.Qxb6000857aModsClosed
import Derived.Test.Qxb6000857aModsRecWalk
namespace Go.Proofs.Qxb6000857aMods.fnGivingPartsRecordsWhatIsGiven
open Go.ChangeShapes Go.WideShapes Go.ChangeAt Go.RowKit MapM CopyW
open Go.Deep (open_int_rows open_bools)
set_option linter.unusedVariables false

theorem own : ownKnob Trym.prog.godebug = none := by kernel_rfl
theorem laidOut : laidOutB Trym.prog = true := by kernel_rfl

/-- Cells one behind another: a slice as the walk is told of it. -/
theorem sl_of {w : World} {len : Nat} {g : Nat → Value} {x : Addr} (h : ∀ i, i < len → w.cell? (x.add i) = some (g i)) : Sl w (some x) len g := fun j hj => by
  have h0 := h 0 (by omega)
  obtain ⟨b, off, sp⟩ := x
  have hsp : sp = none := by
    cases sp with
    | none => rfl
    | some s => exfalso; simp [World.cell?, Addr.add] at h0; split at h0 <;> simp_all
  subst hsp
  refine ⟨b, off, rfl, ?_⟩
  have h1 := h j hj
  unfold Addr.add at h1
  by_cases e : j = 0
  · subst e; simpa using h1
  · simpa [e] using h1

theorem maxLen_eq : maxLen = 9223372036854775807 := rfl

/-! ### THE ROW's STEP -/
set_option maxRecDepth 100000 in
theorem lifted (os : Os) (started : os.Started) (H : Type) (enc : TypeId × Value → H) :
    ReturnsInHanded {} Trym.checked os 6 .any (Rows.fnGivingPartsRecordsWhatIsGivenSpec.pre6 enc Trym.prog Trym.f6 Rows.fnGivingPartsRecordsWhatIsGivenRow.domain false) (Rows.fnGivingPartsRecordsWhatIsGivenSpec.post enc Trym.prog Trym.f6 false true false false) := by
  refine returnsInHanded_of_change (C := Trym.checked) own started (by kernel_rfl) Trym.func6
    (ChangeSpec.witness6 (enc := enc) (C := Trym.checked) false ⟨#[], #[.int .i64 0, .slice none 0 0, .slice none 0 0, .slice none 0 0, .slice none 0 0, .slice none 0 0], []⟩ 8 (by kernel_rfl) (by kernel_rfl) (by kernel_rfl) (by kernel_rfl)) ?_
  intro W base args ds gs before hval0 hW hcnd _
  have hval : ∀ (j : Nat) t v, Trym.f6.params[j]? = some t → args[j]? = some v → Value.okWide Trym.prog W .any base t v := hval0
  have hW' := hW
  obtain ⟨p, q, hA0, hV, rfl, hfz, hnd⟩ := hW
  have hA : DataW.TrodAll enc Trym.prog W 0 (fun _ => true) true Trym.f6.params.toList args.toList ds p := hA0
  rw [Trym.params6] at hA hval
  obtain ⟨v0, vs0, d0, ds0, p0, q0, hargs, rfl, rfl, h0, r0⟩ := trodAll_cons hA
  obtain ⟨v1, vs1, d1, ds1, p1, q1, rfl, rfl, rfl, h1, r1⟩ := trodAll_cons r0
  obtain ⟨v2, vs2, d2, ds2, p2, q2, rfl, rfl, rfl, h2, r2⟩ := trodAll_cons r1
  obtain ⟨v3, vs3, d3, ds3, p3, q3, rfl, rfl, rfl, h3, r3⟩ := trodAll_cons r2
  obtain ⟨v4, vs4, d4, ds4, p4, q4, rfl, rfl, rfl, h4, r4⟩ := trodAll_cons r3
  obtain ⟨v5, vs5, d5, ds5, p5, q5, rfl, rfl, rfl, h5, r5⟩ := trodAll_cons r4
  obtain ⟨rfl, rfl, rfl⟩ := trodAll_nil r5
  obtain rfl : args = #[v0, v1, v2, v3, v4, v5] := by cases args; simp_all
  obtain ⟨rfl, rfl⟩ := trodVars_none hV
  obtain ⟨a0, rfl, rfl, rfl, w0⟩ := open_int Trym.underlying3 (hval 0 3 v0 rfl rfl) h0
  obtain ⟨a1, len1, cap1, rfl⟩ := okWide_slice Trym.underlying22 (hval 1 22 v1 rfl rfl)
  have k1 := h1
  have lt1 : ∀ x ∈ p1, x.block < W.heap.size := by obtain ⟨m, hm⟩ := k1; exact DataW.trod_lt m _ _ _ hm
  obtain ⟨RA, RL, RC, Z, m1, mr1, n1, nr1, s1, sr1⟩ : ∃ (RA : Nat → Option Addr) (RL RC : Nat → Nat) (Z : Nat → Nat → Int), len1 ≤ 9223372036854775807 ∧ (∀ c, c < len1 → RL c ≤ 9223372036854775807) ∧ (a1 = none → len1 = 0) ∧ (∀ c, c < len1 → RA c = none → RL c = 0) ∧
      Sl W a1 len1 (fun c => .slice (RA c) (RL c) (RC c)) ∧ ∀ c, c < len1 → Sl W (RA c) (RL c) (fun k => .int .i64 (Z c k)) := by
    obtain ⟨fuel, hf⟩ := h1
    rcases open_int_rows Trym.underlying22 Trym.underlying23 Trym.underlying3 (by kernel_rfl) (by kernel_rfl) hf with ⟨hcs, _⟩ | ⟨x, l, c, RA, RL, RC, Zs, hcs, _, hl, hm, _, hall⟩
    · simp [Value.cells] at hcs
      obtain ⟨rfl, rfl, rfl⟩ := hcs
      exact ⟨fun _ => none, fun _ => 0, fun _ => 0, fun _ _ => 0, by omega, fun c hc => absurd hc (by omega), fun _ => rfl, fun c hc => absurd hc (by omega), fun j hj => absurd hj (by omega), fun c hc => absurd hc (by omega)⟩
    · simp [Value.cells] at hcs
      obtain ⟨rfl, rfl, rfl⟩ := hcs
      rw [maxLen_eq] at hm
      refine ⟨RA, RL, RC, fun c k => (Zs c).getD k 0, by omega, fun c hc => ?_, fun h => (by cases h), fun c hc h => ?_, sl_of fun j hj => (hall j (by omega)).1, fun c hc => ?_⟩
      · obtain ⟨_, e1, e2, _⟩ := hall c (by omega)
        rw [maxLen_eq] at e2
        omega
      · obtain ⟨_, e1, e2, _, _, e5, _⟩ := hall c (by omega)
        have := e5 h
        omega
      · obtain ⟨_, e1, e2, _, _, e5, e6⟩ := hall c (by omega)
        cases hra : RA c with
        | none => exact fun j hj => absurd hj (by have := e5 hra; omega)
        | some y => exact sl_of fun j hj => (e6 y hra).2 j (by omega)
  obtain ⟨a2, len2, cap2, rfl⟩ := okWide_slice Trym.underlying23 (hval 2 23 v2 rfl rfl)
  have k2 := h2
  have lt2 : ∀ x ∈ p2, x.block < W.heap.size := by obtain ⟨m, hm⟩ := k2; exact DataW.trod_lt m _ _ _ hm
  obtain ⟨g2, m2, n2, s2, w2⟩ : ∃ g : Nat → Int, len2 ≤ 9223372036854775807 ∧ (a2 = none → len2 = 0) ∧ Sl W a2 len2 (fun k => .int .i64 (g k)) ∧ ∀ k, k < len2 → (Lit.int .i64 (g k)).wf = true := by
    obtain ⟨fuel, hf⟩ := h2
    rcases open_ints Trym.underlying23 Trym.underlying3 (by kernel_rfl) hf with ⟨hcs, _⟩ | ⟨x, l, c, zs, hcs, _, hl, hm, hz, _, hcell, hwz⟩
    · simp [Value.cells] at hcs
      obtain ⟨rfl, rfl, rfl⟩ := hcs
      exact ⟨fun _ => 0, by omega, fun _ => rfl, fun j hj => absurd hj (by omega), fun j hj => absurd hj (by omega)⟩
    · simp [Value.cells] at hcs
      obtain ⟨rfl, rfl, rfl⟩ := hcs
      have hz : zs.length = cap2 := by simpa using hz
      rw [maxLen_eq] at hm
      refine ⟨fun k => zs.getD k 0, by omega, fun h => (by cases h), sl_of fun j hj => hcell j (by omega), fun j hj => hwz _ ?_⟩
      show zs.getD j 0 ∈ zs
      rw [List.getD_eq_getElem?_getD, List.getElem?_eq_getElem (show j < zs.length by omega)]
      exact List.getElem_mem _
  obtain ⟨a3, len3, cap3, rfl⟩ := okWide_slice Trym.underlying24 (hval 3 24 v3 rfl rfl)
  have k3 := h3
  have lt3 : ∀ x ∈ p3, x.block < W.heap.size := by obtain ⟨m, hm⟩ := k3; exact DataW.trod_lt m _ _ _ hm
  obtain ⟨g3, m3, n3, s3, w3⟩ : ∃ g : Nat → Int, len3 ≤ 9223372036854775807 ∧ (a3 = none → len3 = 0) ∧ Sl W a3 len3 (fun k => .int .i32 (g k)) ∧ ∀ k, k < len3 → (Lit.int .i32 (g k)).wf = true := by
    obtain ⟨fuel, hf⟩ := h3
    rcases open_ints Trym.underlying24 Trym.underlying21 (by kernel_rfl) hf with ⟨hcs, _⟩ | ⟨x, l, c, zs, hcs, _, hl, hm, hz, _, hcell, hwz⟩
    · simp [Value.cells] at hcs
      obtain ⟨rfl, rfl, rfl⟩ := hcs
      exact ⟨fun _ => 0, by omega, fun _ => rfl, fun j hj => absurd hj (by omega), fun j hj => absurd hj (by omega)⟩
    · simp [Value.cells] at hcs
      obtain ⟨rfl, rfl, rfl⟩ := hcs
      have hz : zs.length = cap3 := by simpa using hz
      rw [maxLen_eq] at hm
      refine ⟨fun k => zs.getD k 0, by omega, fun h => (by cases h), sl_of fun j hj => hcell j (by omega), fun j hj => hwz _ ?_⟩
      show zs.getD j 0 ∈ zs
      rw [List.getD_eq_getElem?_getD, List.getElem?_eq_getElem (show j < zs.length by omega)]
      exact List.getElem_mem _
  obtain ⟨a4, len4, cap4, rfl⟩ := okWide_slice Trym.underlying24 (hval 4 24 v4 rfl rfl)
  have k4 := h4
  have lt4 : ∀ x ∈ p4, x.block < W.heap.size := by obtain ⟨m, hm⟩ := k4; exact DataW.trod_lt m _ _ _ hm
  obtain ⟨g4, m4, n4, s4, w4⟩ : ∃ g : Nat → Int, len4 ≤ 9223372036854775807 ∧ (a4 = none → len4 = 0) ∧ Sl W a4 len4 (fun k => .int .i32 (g k)) ∧ ∀ k, k < len4 → (Lit.int .i32 (g k)).wf = true := by
    obtain ⟨fuel, hf⟩ := h4
    rcases open_ints Trym.underlying24 Trym.underlying21 (by kernel_rfl) hf with ⟨hcs, _⟩ | ⟨x, l, c, zs, hcs, _, hl, hm, hz, _, hcell, hwz⟩
    · simp [Value.cells] at hcs
      obtain ⟨rfl, rfl, rfl⟩ := hcs
      exact ⟨fun _ => 0, by omega, fun _ => rfl, fun j hj => absurd hj (by omega), fun j hj => absurd hj (by omega)⟩
    · simp [Value.cells] at hcs
      obtain ⟨rfl, rfl, rfl⟩ := hcs
      have hz : zs.length = cap4 := by simpa using hz
      rw [maxLen_eq] at hm
      refine ⟨fun k => zs.getD k 0, by omega, fun h => (by cases h), sl_of fun j hj => hcell j (by omega), fun j hj => hwz _ ?_⟩
      show zs.getD j 0 ∈ zs
      rw [List.getD_eq_getElem?_getD, List.getElem?_eq_getElem (show j < zs.length by omega)]
      exact List.getElem_mem _
  obtain ⟨a5, len5, cap5, rfl⟩ := okWide_slice Trym.underlying25 (hval 5 25 v5 rfl rfl)
  have k5 := h5
  have lt5 : ∀ x ∈ p5, x.block < W.heap.size := by obtain ⟨m, hm⟩ := k5; exact DataW.trod_lt m _ _ _ hm
  obtain ⟨g5, m5, n5, s5⟩ : ∃ g : Nat → Bool, len5 ≤ 9223372036854775807 ∧ (a5 = none → len5 = 0) ∧ Sl W a5 len5 (fun k => .bool (g k)) := by
    obtain ⟨fuel, hf⟩ := h5
    rcases open_bools Trym.underlying25 Trym.underlying4 (by kernel_rfl) hf with ⟨hcs, _⟩ | ⟨x, l, c, zs, hcs, _, hl, hm, _, hcell⟩
    · simp [Value.cells] at hcs
      obtain ⟨rfl, rfl, rfl⟩ := hcs
      exact ⟨fun _ => false, by omega, fun _ => rfl, fun j hj => absurd hj (by omega)⟩
    · simp [Value.cells] at hcs
      obtain ⟨rfl, rfl, rfl⟩ := hcs
      rw [maxLen_eq] at hm
      exact ⟨zs, by omega, fun h => (by cases h), sl_of fun j hj => hcell j (by omega)⟩
  clear hA0 hval0
  refine (RecW.walk6 a0 a1 a2 a3 a4 a5 len1 len2 len3 len4 len5 cap1 cap2 cap3 cap4 cap5 RA RL RC Z g2 g3 g4 g5 W m1 m2 m3 m4 m5 mr1 n1 n2 n3 n4 n5 nr1 s1 sr1 s2 s3 s4 s5 w3 w4).mono fun e W' ⟨he, bel⟩ => ?_
  subst he
  exact ⟨_, rfl, _, _, _, [], _, [], hW', trodAll_mk1 (shut_bool Trym.underlying4 _), (trodAll_cons_mk (shut_int Trym.underlying3 w0) (trodAll_cons_mk (Below.trod laidOut (by kernel_rfl) (of_decide_eq_true (by kernel_rfl)) k1 bel lt1) (trodAll_cons_mk (Below.trod laidOut (by kernel_rfl) (of_decide_eq_true (by kernel_rfl)) k2 bel lt2) (trodAll_cons_mk (Below.trod laidOut (by kernel_rfl) (of_decide_eq_true (by kernel_rfl)) k3 bel lt3) (trodAll_cons_mk (Below.trod laidOut (by kernel_rfl) (of_decide_eq_true (by kernel_rfl)) k4 bel lt4) (trodAll_cons_mk (Below.trod laidOut (by kernel_rfl) (of_decide_eq_true (by kernel_rfl)) k5 bel lt5) trodAll_mk0)))))), rfl, bel.frame _, fun h => by cases h⟩

theorem over : Rows.fnGivingPartsRecordsWhatIsGivenRow.holds Trym.pinned (OpenSpec.ofChange Rows.fnGivingPartsRecordsWhatIsGivenSpec) :=
  OpenClaim.holds_of_wide 6 Trym.f6 rfl rfl rfl rfl rfl rfl rfl ⟨rfl, rfl, rfl, rfl, rfl⟩ rfl rfl rfl rfl rfl (by kernel_rfl) Trym.func6 ClosedW.closed6
    (of_decide_eq_true (by kernel_rfl)) (by unfold Func.isWrapper; first | (rw [if_pos (by decide +kernel)]; kernel_rfl) | (rw [if_neg (by decide +kernel)]; exact ⟨rfl, rfl⟩))
    (fun os started H enc _ => lifted os started H enc)

/-- ████ THE STATEMENT ████ -/
theorem proved : Rows.FnGivingPartsRecordsWhatIsGivenSaid := over
#print axioms proved
end Go.Proofs.Qxb6000857aMods.fnGivingPartsRecordsWhatIsGiven
