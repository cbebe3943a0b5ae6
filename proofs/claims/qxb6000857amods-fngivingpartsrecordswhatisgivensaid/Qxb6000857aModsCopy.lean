/-
  THE WALKS of zzCopyInts, zzCopyI32, zzCopyBools, zzCopyEligible (15, 16, 17, 14).
-/
import Derived.Test.Qxb6000857aModsNew
import Derived.Lib.LazyBuf
namespace Go.Proofs.Qxb6000857aMods.CopyW
open Go.RowKit MapM AddW GivW NewW
set_option linter.unusedVariables false

/-- A slice of one-cell elements reads as g (nil where there is none). -/
def Sl (w : World) (a : Option Addr) (n : Nat) (g : Nat → Value) : Prop := ∀ j, j < n → ∃ b off, a = some ⟨b, off, none⟩ ∧ w.cell? ⟨b, off + j, none⟩ = some (g j)
/-- .. at the head of a block. -/
def Own0 (w : World) (a : Option Addr) (n : Nat) (g : Nat → Value) : Prop := 0 < n → ∃ b, a = some ⟨b, 0, none⟩ ∧ ∀ j, j < n → w.cell? ⟨b, j, none⟩ = some (g j)

theorem Own0.below {w w' : World} {a : Option Addr} {n : Nat} {g : Nat → Value} (h : Own0 w a n g) (hb : Below w.heap.size w w') : Own0 w' a n g := fun h0 => by
  obtain ⟨b, e, h1⟩ := h h0
  exact ⟨b, e, fun j hj => (hb.cell (cell_lt (h1 j hj))).trans (h1 j hj)⟩
theorem Own0.sl {w : World} {a : Option Addr} {n : Nat} {g : Nat → Value} (h : Own0 w a n g) : Sl w a n g := fun j hj => by
  obtain ⟨b, e, h1⟩ := h (by omega)
  exact ⟨b, 0, e, by rw [Nat.zero_add]; exact h1 j hj⟩
theorem Sl.below {w w' : World} {a : Option Addr} {n : Nat} {g : Nat → Value} (h : Sl w a n g) (hb : Below w.heap.size w w') : Sl w' a n g := fun j hj => by
  obtain ⟨b, off, e, h1⟩ := h j hj
  exact ⟨b, off, e, (hb.cell (cell_lt h1)).trans h1⟩

theorem info21 : (Trym.prog.info? 21).map (fun i => (i.zero, i.size, i.bytes)) = some (some (.int .i32 0), 1, 4) := by kernel_rfl
theorem info23 : (Trym.prog.info? 23).map (fun i => (i.zero, i.size, i.bytes)) = some (some (.slice none 0 0), 1, 24) := by kernel_rfl

theorem row_next {w : World} {b n k : Nat} {t : TypeId} {g : Nat → Value} {z v : Value} (h : RowIs w b t n (fun j => if j < k then g j else z)) (hk : k < n) (hv : v = g k) : RowIs (w.setCell ⟨b, k, none⟩ v) b t n (fun j => if j < k + 1 then g j else z) := by
  obtain ⟨cur, a1, a2, a3⟩ := h.set hk v
  refine ⟨cur, a1, a2, fun j hj => (a3 j hj).trans ?_⟩
  by_cases e : j = k
  · subst e; simp [hv]
  · by_cases e2 : j < k
    · simp [e, e2, show j < k + 1 by omega]
    · simp [e, e2, show ¬ j < k + 1 by omega]

/-- copyInts. -/
theorem copyInts_any (a : Option Addr) (n cap : Nat) (g : Nat → Int) (w : World) (hn : n ≤ 100000000) (hnil : a = none → n = 0) (hs : Sl w a n (fun k => Value.int .i64 (g k))) :
    Calls Trym.prog 15 #[.slice a n cap] w fun e w' => ∃ a', e = .returned (.slice a' n n) ∧ Own0 w' a' n (fun k => Value.int .i64 (g k)) ∧ Below w.heap.size w w' ∧ ∀ b, a' = some b → w.heap.size ≤ b.block := by
  cases a with
  | none =>
    have h0 := hnil rfl
    subst h0
    have hq := fun w => run_eql_slice_nil (P := Trym.prog) w 23 3 none 0 cap Trym.underlying23
    go_enter Trym.func15, Trym.ntmps15
    go_wp2
    go_ret
    exact ⟨none, rfl, fun h => absurd h (by omega), Below.refl _ _, fun _ h => (by cases h)⟩
  | some x =>
    have hq := fun w => run_eql_slice_nil (P := Trym.prog) w 23 3 (some x) n cap Trym.underlying23
    obtain ⟨Z, hZ⟩ : ∃ Z, Z = madeCells #[Value.int .i64 0] n := ⟨_, rfl⟩
    have hmk := make_any 23 3 (Value.int .i64 0) 8 n Trym.underlying23 info3 rfl (by omega) (by omega) Z hZ w
    have HR0 : Hid (RowIs (w.alloc (.cells Z 3)) w.heap.size 3 n (fun k => if k < 0 then Value.int .i64 (g k) else Value.int .i64 0)) := by
      have := made_row (n := n) (t := 3) (z := Value.int .i64 0) (by rw [← hZ]; exact (MapKept.heap_alloc w (.cells Z 3)).1) rfl
      obtain ⟨cur, a1, a2, a3⟩ := this
      exact ⟨cur, a1, a2, fun i hi => by simpa using a3 i hi⟩
    have HS := hide hs
    clear hZ hs hnil
    go_enter Trym.func15, Trym.ntmps15
    go_wp2
    go_loopw [4] (fun i wr => ∃ k : Nat, k ≤ n ∧ i = .int .i64 (k : Int) ∧ Hid (RowIs wr w.heap.size 3 n (fun j => if j < k then Value.int .i64 (g j) else Value.int .i64 0)) ∧ Hid (Below w.heap.size w wr)) (fun i _ => (n - intOf i).toNat)
    case atStart => exact ⟨0, by omega, rfl, HR0, (Below.refl _ _).alloc (Nat.le_refl _) _⟩
    case round =>
      clear HR0
      obtain ⟨k, hk, rfl, HR, HB⟩ := hrel
      by_cases hlt : k < n
      · obtain ⟨b, off, hx, hc⟩ := HS.out k hlt
        cases hx
        have c1 : wr.cell? ⟨b, off + k, none⟩ = some (Value.int .i64 (g k)) := (HB.out.cell (cell_lt hc)).trans hc
        have c2 := HR.out.cell hlt
        have c3 := HR.out.frozen k
        simp only [Nat.lt_irrefl, if_false] at c2
        go_wp2
        go_roundw
        case rel => exact ⟨k + 1, by omega, by go_num, row_next HR.out hlt rfl, HB.out.setCell (Nat.le_refl _) _⟩
        case measure => simp [intOf]; omega
      · have hkn : k = n := by omega
        subst hkn
        go_wp2
        go_ret
        exact ⟨_, rfl, fun _ => ⟨_, rfl, fun j hj => by have := HR.out.cell hj; simpa [show j < k from hj] using this⟩, HB.out, fun _ h => (by cases h; exact Nat.le_refl _)⟩

/-- copyI32. -/
theorem copyI32_any (a : Option Addr) (n cap : Nat) (g : Nat → Int) (w : World) (hn : n ≤ 100000000) (hnil : a = none → n = 0) (hs : Sl w a n (fun k => Value.int .i32 (g k))) :
    Calls Trym.prog 16 #[.slice a n cap] w fun e w' => ∃ a', e = .returned (.slice a' n n) ∧ Own0 w' a' n (fun k => Value.int .i32 (g k)) ∧ Below w.heap.size w w' ∧ ∀ b, a' = some b → w.heap.size ≤ b.block := by
  cases a with
  | none =>
    have h0 := hnil rfl
    subst h0
    have hq := fun w => run_eql_slice_nil (P := Trym.prog) w 24 21 none 0 cap Trym.underlying24
    go_enter Trym.func16, Trym.ntmps16
    go_wp2
    go_ret
    exact ⟨none, rfl, fun h => absurd h (by omega), Below.refl _ _, fun _ h => (by cases h)⟩
  | some x =>
    have hq := fun w => run_eql_slice_nil (P := Trym.prog) w 24 21 (some x) n cap Trym.underlying24
    obtain ⟨Z, hZ⟩ : ∃ Z, Z = madeCells #[Value.int .i32 0] n := ⟨_, rfl⟩
    have hmk := make_any 24 21 (Value.int .i32 0) 4 n Trym.underlying24 info21 rfl (by omega) (by omega) Z hZ w
    have HR0 : Hid (RowIs (w.alloc (.cells Z 21)) w.heap.size 21 n (fun k => if k < 0 then Value.int .i32 (g k) else Value.int .i32 0)) := by
      have := made_row (n := n) (t := 21) (z := Value.int .i32 0) (by rw [← hZ]; exact (MapKept.heap_alloc w (.cells Z 21)).1) rfl
      obtain ⟨cur, a1, a2, a3⟩ := this
      exact ⟨cur, a1, a2, fun i hi => by simpa using a3 i hi⟩
    have HS := hide hs
    clear hZ hs hnil
    go_enter Trym.func16, Trym.ntmps16
    go_wp2
    go_loopw [4] (fun i wr => ∃ k : Nat, k ≤ n ∧ i = .int .i64 (k : Int) ∧ Hid (RowIs wr w.heap.size 21 n (fun j => if j < k then Value.int .i32 (g j) else Value.int .i32 0)) ∧ Hid (Below w.heap.size w wr)) (fun i _ => (n - intOf i).toNat)
    case atStart => exact ⟨0, by omega, rfl, HR0, (Below.refl _ _).alloc (Nat.le_refl _) _⟩
    case round =>
      clear HR0
      obtain ⟨k, hk, rfl, HR, HB⟩ := hrel
      by_cases hlt : k < n
      · obtain ⟨b, off, hx, hc⟩ := HS.out k hlt
        cases hx
        have c1 : wr.cell? ⟨b, off + k, none⟩ = some (Value.int .i32 (g k)) := (HB.out.cell (cell_lt hc)).trans hc
        have c2 := HR.out.cell hlt
        have c3 := HR.out.frozen k
        simp only [Nat.lt_irrefl, if_false] at c2
        go_wp2
        go_roundw
        case rel => exact ⟨k + 1, by omega, by go_num, row_next HR.out hlt rfl, HB.out.setCell (Nat.le_refl _) _⟩
        case measure => simp [intOf]; omega
      · have hkn : k = n := by omega
        subst hkn
        go_wp2
        go_ret
        exact ⟨_, rfl, fun _ => ⟨_, rfl, fun j hj => by have := HR.out.cell hj; simpa [show j < k from hj] using this⟩, HB.out, fun _ h => (by cases h; exact Nat.le_refl _)⟩

/-- copyBools. -/
theorem copyBools_any (a : Option Addr) (n cap : Nat) (g : Nat → Bool) (w : World) (hn : n ≤ 100000000) (hnil : a = none → n = 0) (hs : Sl w a n (fun k => Value.bool (g k))) :
    Calls Trym.prog 17 #[.slice a n cap] w fun e w' => ∃ a', e = .returned (.slice a' n n) ∧ Own0 w' a' n (fun k => Value.bool (g k)) ∧ Below w.heap.size w w' ∧ ∀ b, a' = some b → w.heap.size ≤ b.block := by
  cases a with
  | none =>
    have h0 := hnil rfl
    subst h0
    have hq := fun w => run_eql_slice_nil (P := Trym.prog) w 25 4 none 0 cap Trym.underlying25
    go_enter Trym.func17, Trym.ntmps17
    go_wp2
    go_ret
    exact ⟨none, rfl, fun h => absurd h (by omega), Below.refl _ _, fun _ h => (by cases h)⟩
  | some x =>
    have hq := fun w => run_eql_slice_nil (P := Trym.prog) w 25 4 (some x) n cap Trym.underlying25
    obtain ⟨Z, hZ⟩ : ∃ Z, Z = madeCells #[Value.bool false] n := ⟨_, rfl⟩
    have hmk := make_any 25 4 (Value.bool false) 1 n Trym.underlying25 info4 rfl (by omega) (by omega) Z hZ w
    have HR0 : Hid (RowIs (w.alloc (.cells Z 4)) w.heap.size 4 n (fun k => if k < 0 then Value.bool (g k) else Value.bool false)) := by
      have := made_row (n := n) (t := 4) (z := Value.bool false) (by rw [← hZ]; exact (MapKept.heap_alloc w (.cells Z 4)).1) rfl
      obtain ⟨cur, a1, a2, a3⟩ := this
      exact ⟨cur, a1, a2, fun i hi => by simpa using a3 i hi⟩
    have HS := hide hs
    clear hZ hs hnil
    go_enter Trym.func17, Trym.ntmps17
    go_wp2
    go_loopw [4] (fun i wr => ∃ k : Nat, k ≤ n ∧ i = .int .i64 (k : Int) ∧ Hid (RowIs wr w.heap.size 4 n (fun j => if j < k then Value.bool (g j) else Value.bool false)) ∧ Hid (Below w.heap.size w wr)) (fun i _ => (n - intOf i).toNat)
    case atStart => exact ⟨0, by omega, rfl, HR0, (Below.refl _ _).alloc (Nat.le_refl _) _⟩
    case round =>
      clear HR0
      obtain ⟨k, hk, rfl, HR, HB⟩ := hrel
      by_cases hlt : k < n
      · obtain ⟨b, off, hx, hc⟩ := HS.out k hlt
        cases hx
        have c1 : wr.cell? ⟨b, off + k, none⟩ = some (Value.bool (g k)) := (HB.out.cell (cell_lt hc)).trans hc
        have c2 := HR.out.cell hlt
        have c3 := HR.out.frozen k
        simp only [Nat.lt_irrefl, if_false] at c2
        go_wp2
        go_roundw
        case rel => exact ⟨k + 1, by omega, by go_num, row_next HR.out hlt rfl, HB.out.setCell (Nat.le_refl _) _⟩
        case measure => simp [intOf]; omega
      · have hkn : k = n := by omega
        subst hkn
        go_wp2
        go_ret
        exact ⟨_, rfl, fun _ => ⟨_, rfl, fun j hj => by have := HR.out.cell hj; simpa [show j < k from hj] using this⟩, HB.out, fun _ h => (by cases h; exact Nat.le_refl _)⟩

theorem row_next_fn {w : World} {b n k : Nat} {t : TypeId} {g g' : Nat → Value} {z v : Value} (h : RowIs w b t n (fun j => if j < k then g j else z)) (hk : k < n) (hv : v = g' k) (hg : ∀ j, j < k → g' j = g j) : RowIs (w.setCell ⟨b, k, none⟩ v) b t n (fun j => if j < k + 1 then g' j else z) := by
  obtain ⟨cur, a1, a2, a3⟩ := h.set hk v
  refine ⟨cur, a1, a2, fun j hj => (a3 j hj).trans ?_⟩
  by_cases e : j = k
  · subst e; simp [hv]
  · by_cases e2 : j < k
    · simp [e, e2, show j < k + 1 by omega, hg j e2]
    · simp [e, e2, show ¬ j < k + 1 by omega]

theorem own0_set {w : World} {a : Option Addr} {m H C k k' : Nat} {z : Nat → Int} {RA : Nat → Option Addr} {RL : Nat → Nat} {v : Value} (h : Own0 w a m (fun j => .int .i64 (z j))) (hr : RowIs w H 23 C (fun j => if j < k' then .slice (RA j) (RL j) (RL j) else .slice none 0 0)) (hC : 0 < C) :
    Own0 (w.setCell ⟨H, k, none⟩ v) a m (fun j => .int .i64 (z j)) := fun h0 => by
  obtain ⟨b, e, hc⟩ := h h0
  have hne : b ≠ H := fun e2 => by
    have c1 := hc 0 h0
    have c2 := hr.cell hC
    rw [e2, c2] at c1
    simp only [Option.some.injEq] at c1
    split at c1 <;> cases c1
  exact ⟨b, e, fun j hj => (World.cell?_of_block (a := ⟨b, j, none⟩) (Below.heap_setCell _ _ _ _ hne)).trans (hc j hj)⟩

/-- What zzCopyEligible leaves. -/
def ElOwn (w : World) (a : Option Addr) (C : Nat) (RA : Nat → Option Addr) (RL : Nat → Nat) (Z : Nat → Nat → Int) : Prop :=
  Own0 w a C (fun c => .slice (RA c) (RL c) (RL c)) ∧ ∀ c, c < C → Own0 w (RA c) (RL c) (fun k => .int .i64 (Z c k))

theorem ElOwn.below {w w' : World} {a : Option Addr} {C : Nat} {RA : Nat → Option Addr} {RL : Nat → Nat} {Z : Nat → Nat → Int} (h : ElOwn w a C RA RL Z) (hb : Below w.heap.size w w') : ElOwn w' a C RA RL Z :=
  ⟨h.1.below hb, fun c hc => (h.2 c hc).below hb⟩

set_option maxHeartbeats 1000000 in
theorem copyEl_any (a : Option Addr) (C cap : Nat) (RA : Nat → Option Addr) (RL RC : Nat → Nat) (Z : Nat → Nat → Int) (w : World) (hC : C ≤ 1048576) (hnil : a = none → C = 0)
    (hs : Sl w a C (fun c => .slice (RA c) (RL c) (RC c))) (hrow : ∀ c, c < C → Sl w (RA c) (RL c) (fun k => .int .i64 (Z c k))) (hrl : ∀ c, c < C → RL c ≤ 1048576) (hrn : ∀ c, c < C → RA c = none → RL c = 0) :
    Calls Trym.prog 14 #[.slice a C cap] w fun e w' => ∃ a' RA', e = .returned (.slice a' C C) ∧ ElOwn w' a' C RA' RL Z ∧ Below w.heap.size w w' := by
  cases a with
  | none =>
    have h0 := hnil rfl
    subst h0
    have hq := fun w => run_eql_slice_nil (P := Trym.prog) w 22 23 none 0 cap Trym.underlying22
    go_enter Trym.func14, Trym.ntmps14
    go_wp2
    go_ret
    exact ⟨none, rfl, ⟨RA, fun h => absurd h (by omega), fun c hc => absurd hc (by omega)⟩, Below.refl _ _⟩
  | some x =>
    have hq := fun w => run_eql_slice_nil (P := Trym.prog) w 22 23 (some x) C cap Trym.underlying22
    obtain ⟨ZZ, hZ⟩ : ∃ ZZ, ZZ = madeCells #[Value.slice none 0 0] C := ⟨_, rfl⟩
    have hmk := make_any 22 23 (.slice none 0 0) 24 C Trym.underlying22 info23 rfl (by omega) (by omega) ZZ hZ w
    have HR0 : Hid (RowIs (w.alloc (.cells ZZ 23)) w.heap.size 23 C (fun k => if k < 0 then .slice (RA k) (RL k) (RL k) else .slice none 0 0)) := by
      have := made_row (n := C) (t := 23) (z := .slice none 0 0) (by rw [← hZ]; exact (MapKept.heap_alloc w (.cells ZZ 23)).1) rfl
      obtain ⟨cur, a1, a2, a3⟩ := this
      exact ⟨cur, a1, a2, fun i hi => by simpa using a3 i hi⟩
    have HS := hide hs
    have HROW := hide hrow
    have HRL := hide hrl
    have HRN := hide hrn
    clear hZ hs hrow hrl hrn hnil
    go_enter Trym.func14, Trym.ntmps14
    go_wp2
    go_loopw [4] (fun i wr => ∃ k : Nat, ∃ RA' : Nat → Option Addr, k ≤ C ∧ i = .int .i64 (k : Int) ∧ Hid (RowIs wr w.heap.size 23 C (fun j => if j < k then .slice (RA' j) (RL j) (RL j) else .slice none 0 0)) ∧ Hid (∀ c, c < k → Own0 wr (RA' c) (RL c) (fun k => .int .i64 (Z c k))) ∧ Hid (Below w.heap.size w wr)) (fun i _ => (C - intOf i).toNat)
    case atStart => exact ⟨0, RA, by omega, rfl, HR0, fun c hc => absurd hc (by omega), (Below.refl _ _).alloc (Nat.le_refl _) _⟩
    case round =>
      clear HR0
      obtain ⟨k, RA', hk, rfl, HR, HO, HB⟩ := hrel
      by_cases hlt : k < C
      · obtain ⟨b, off, hx, hc⟩ := HS.out k hlt
        cases hx
        have c1 : wr.cell? ⟨b, off + k, none⟩ = some (.slice (RA k) (RL k) (RC k)) := (HB.out.cell (cell_lt hc)).trans hc
        have hsl : Sl wr (RA k) (RL k) (fun j => .int .i64 (Z k j)) := (HROW.out k hlt).below HB.out
        have hr1 := HRL.out k hlt
        have hr2 := HRN.out k hlt
        have HSL := hide hsl
        have HR2 := hide hr2
        clear hsl hr2
        generalize hra : RA k = ra at c1 HSL HR2
        generalize hrl : RL k = rl at c1 HSL HR2 hr1
        generalize hrc : RC k = rc at c1
        have Hrl := hide hrl
        clear hra hrl hrc
        go_wp2_with fail
        refine (copyInts_any ra rl rc (Z k) _ (by omega) HR2.out HSL.out).mono ?_
        rintro e w1 ⟨a1, rfl, ho, hb, _⟩
        have HO1 := hide ho
        have HB1 := hide hb
        have c2 : w1.cell? ⟨w.heap.size, k, none⟩ = some (.slice none 0 0) := by
          have := (HB1.out.cell (p := ⟨w.heap.size, k, none⟩) HR.out.lt).trans (HR.out.cell hlt)
          simpa using this
        have c3 : w1.frozen? ⟨w.heap.size, k, none⟩ = false := (HB1.out.frozen (p := ⟨w.heap.size, k, none⟩) HR.out.lt).trans (HR.out.frozen k)
        clear ho hb
        go_wp2_with fail
        go_roundw
        case rel =>
          have hHw : w.heap.size < wr.heap.size := HR.out.lt
          refine ⟨k + 1, fun j => if j = k then a1 else RA' j, by omega, by go_num, ?_, ?_, ?_⟩
          · refine row_next_fn (HR.out.same (HB1.out.block _ HR.out.lt)) hlt ?_ (fun j hj => ?_)
            · simp only [if_true, Hrl.out]
            · simp only [show ¬ j = k by omega, if_false]
          · intro c hc
            have hrow := HR.out.same (HB1.out.block _ HR.out.lt)
            by_cases e : c = k
            · subst e
              simp only [if_true, Hrl.out]
              exact own0_set HO1.out hrow (by omega)
            · simp only [e, if_false]
              exact own0_set ((HO.out c (by omega)).below HB1.out) hrow (by omega)
          · exact (HB.out.trans (HB1.out.mono (Nat.le_of_lt hHw))).setCell (Nat.le_refl _) _
        case measure => simp [intOf]; omega
      · have hkn : k = C := by omega
        subst hkn
        go_wp2
        go_ret
        exact ⟨_, RA', rfl, ⟨fun _ => ⟨_, rfl, fun j hj => by have := HR.out.cell hj; simpa [show j < k from hj] using this⟩, HO.out⟩, HB.out⟩

end Go.Proofs.Qxb6000857aMods.CopyW
