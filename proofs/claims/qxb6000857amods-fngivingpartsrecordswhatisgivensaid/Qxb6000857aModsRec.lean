/-
  SMALL LAWS for the walk of FnGivingPartsRecordsWhatIsGiven (6): the three tables in memory, zzKey (26).
-/
import Derived.Test.Qxb6000857aModsUndo
import Derived.Test.Qxb6000857aModsSort
namespace Go.Proofs.Qxb6000857aMods.RecW
open Go.RowKit MapM AddW GivW PartsW NewW CopyW GuardW BuildW UndoW SortP
set_option linter.unusedVariables false

theorem w32_bounds {c : Int} (h : W32 c) : -2147483648 ≤ c ∧ c ≤ 2147483647 := by
  have h : (Lit.int .i32 c).wf = true := h
  simp [Lit.wf, IntKind.min, IntKind.max, IntKind.signed, IntKind.bits] at h
  omega

theorem key_any (c : Int) (b : Bool) (hc : W32 c) (w : World) : Calls Trym.prog 26 #[.int .i32 c, .bool b] w fun e w' => e = .returned (.int .i64 (c * 2 + if b then 1 else 0)) ∧ w' = w := by
  obtain ⟨h1, h2⟩ := w32_bounds hc
  clear hc
  cases b
  · go_enter Trym.func26, Trym.ntmps26
    go_wp2
    go_ret
    exact ⟨by simp, rfl⟩
  · go_enter Trym.func26, Trym.ntmps26
    go_wp2
    go_ret
    exact ⟨by simp, rfl⟩

/-- A table of int cells. -/
def natRow (o : Nat → Nat) : Nat → Value := fun j => .int .i64 ((o j : Nat) : Int)
theorem row_nat {w : World} {b n p x : Nat} {v : Value} {o o' : Nat → Nat} (h : RowIs w b 3 n (natRow o)) (hp : p < n) (hv : v = .int .i64 ((x : Nat) : Int)) (ho : ∀ j, upd o p x j = o' j) : RowIs (w.setCell ⟨b, p, none⟩ v) b 3 n (natRow o') := by
  obtain ⟨cur, a1, a2, a3⟩ := h.set hp v
  refine ⟨cur, a1, a2, fun j hj => (a3 j hj).trans ?_⟩
  rw [hv]
  show some (if j = p then _ else natRow o j) = some (natRow o' j)
  unfold natRow
  rw [← ho j]
  unfold upd
  split <;> rfl
theorem row_congr {w : World} {b n : Nat} {o o' : Nat → Nat} (h : RowIs w b 3 n (natRow o)) (e : ∀ j, j < n → o j = o' j) : RowIs w b 3 n (natRow o') := by
  obtain ⟨cur, a1, a2, a3⟩ := h
  refine ⟨cur, a1, a2, fun j hj => (a3 j hj).trans ?_⟩
  unfold natRow
  rw [e j hj]

/-- 'start', 'order' and 'pos' in memory. -/
structure Tb (w6 : World) (Ho Hp m T : Nat) (s o ps : Nat → Nat) (wr : World) : Prop where
  bel : Below w6.heap.size w6 wr
  st : RowIs wr w6.heap.size 3 (m + 1) (natRow s)
  or : RowIs wr Ho 3 T (natRow o)
  po : RowIs wr Hp 3 m (natRow ps)
  so : w6.heap.size < Ho
  op : Ho < Hp

variable {w6 wr : World} {Ho Hp m T : Nat} {s o ps : Nat → Nat}
theorem Tb.setO (h : Tb w6 Ho Hp m T s o ps wr) {p x : Nat} {v : Value} {o' : Nat → Nat} (hp : p < T) (hv : v = .int .i64 ((x : Nat) : Int)) (ho : ∀ j, upd o p x j = o' j) : Tb w6 Ho Hp m T s o' ps (wr.setCell ⟨Ho, p, none⟩ v) :=
  ⟨h.bel.setCell (Nat.le_of_lt h.so) _, h.st.same (Below.heap_setCell _ _ _ _ (by have := h.so; show _ ≠ Ho; omega)), row_nat h.or hp hv ho, h.po.same (Below.heap_setCell _ _ _ _ (by have := h.op; show _ ≠ Ho; omega)), h.so, h.op⟩
theorem Tb.setP (h : Tb w6 Ho Hp m T s o ps wr) {p x : Nat} {v : Value} {ps' : Nat → Nat} (hp : p < m) (hv : v = .int .i64 ((x : Nat) : Int)) (ho : ∀ j, upd ps p x j = ps' j) : Tb w6 Ho Hp m T s o ps' (wr.setCell ⟨Hp, p, none⟩ v) :=
  ⟨h.bel.setCell (by have := h.so; have := h.op; show _ ≤ Hp; omega) _, h.st.same (Below.heap_setCell _ _ _ _ (by have := h.so; have := h.op; show _ ≠ Hp; omega)), h.or.same (Below.heap_setCell _ _ _ _ (by have := h.op; show _ ≠ Hp; omega)), row_nat h.po hp hv ho, h.so, h.op⟩
theorem Tb.grow (h : Tb w6 Ho Hp m T s o ps wr) {w' : World} (hb : Below wr.heap.size wr w') : Tb w6 Ho Hp m T s o ps w' :=
  ⟨h.bel.trans (hb.mono h.bel.size), h.st.same (hb.block _ h.st.lt), h.or.same (hb.block _ h.or.lt), h.po.same (hb.block _ h.po.lt), h.so, h.op⟩
theorem Tb.draws (h : Tb w6 Ho Hp m T s o ps wr) (d : Nat) : Tb w6 Ho Hp m T s o ps (wr.drewN d) := h.grow (bel_drewN _ _ _)
theorem Tb.congr (h : Tb w6 Ho Hp m T s o ps wr) {o' : Nat → Nat} (e : ∀ j, o j = o' j) : Tb w6 Ho Hp m T s o' ps wr := ⟨h.bel, h.st, row_congr h.or fun j _ => e j, h.po, h.so, h.op⟩
theorem Tb.congrP (h : Tb w6 Ho Hp m T s o ps wr) {ps' : Nat → Nat} (e : ∀ j, j < m → ps j = ps' j) : Tb w6 Ho Hp m T s o ps' wr := ⟨h.bel, h.st, h.or, row_congr h.po e, h.so, h.op⟩
theorem row_drew {w : World} {b n : Nat} {t : TypeId} {g : Nat → Value} (h : RowIs w b t n g) : RowIs w.drew b t n g := h
theorem tb_start {ZO ZP : Array Value} (hb : Below w6.heap.size w6 wr) (hs : RowIs wr w6.heap.size 3 (m + 1) (natRow s)) (hZO : ZO = madeCells #[Value.int .i64 0] T) (hZP : ZP = madeCells #[Value.int .i64 0] m) :
    Tb w6 wr.heap.size (wr.alloc (.cells ZO 3)).heap.size m T s (fun _ => 0) (fun j => if j < 0 then s j else 0) ((wr.alloc (.cells ZO 3)).alloc (.cells ZP 3)) := by
  have sz : (wr.alloc (.cells ZO 3)).heap.size = wr.heap.size + 1 := by simp
  have b1 : ∀ k, k < wr.heap.size → ((wr.alloc (.cells ZO 3)).alloc (.cells ZP 3)).heap[k]? = wr.heap[k]? := fun k hk => (Below.heap_alloc _ _ _ (by omega)).trans (Below.heap_alloc _ _ _ hk)
  refine ⟨(hb.alloc hb.size _).alloc (by rw [sz]; have := hb.size; omega) _, hs.same (b1 _ hs.lt), ?_, ?_, hs.lt, by rw [sz]; omega⟩
  · have := made_row (n := T) (t := 3) (z := Value.int .i64 0) (w := wr.alloc (.cells ZO 3)) (by rw [← hZO]; exact (MapKept.heap_alloc wr (.cells ZO 3)).1) rfl
    exact this.same (Below.heap_alloc _ _ _ (by omega))
  · have := made_row (n := m) (t := 3) (z := Value.int .i64 0) (w := (wr.alloc (.cells ZO 3)).alloc (.cells ZP 3)) (by rw [← hZP]; exact (MapKept.heap_alloc (wr.alloc (.cells ZO 3)) (.cells ZP 3)).1) rfl
    obtain ⟨cur, a1, a2, a3⟩ := this
    exact ⟨cur, a1, a2, fun i hi => by rw [a3 i hi]; simp [natRow]⟩
theorem pos_step (s : Nat → Nat) (i j : Nat) : upd (fun j => if j < i then s j else 0) i (s i) j = if j < i + 1 then s j else 0 := by
  unfold upd
  by_cases e : j = i
  · subst e; simp
  · rw [if_neg e]
    show (if j < i then s j else 0) = _
    by_cases h : j < i
    · rw [if_pos h, if_pos (by omega)]
    · rw [if_neg h, if_neg (by omega)]
theorem upd_lt {N p x : Nat} (h : ∀ j, j < T → o j < N) (hx : x < N) : ∀ j, j < T → upd o p x j < N := fun j hj => by
  unfold upd
  split
  · exact hx
  · exact h j hj
theorem key_q (Cl : Nat → Int) (An : Nat → Bool) (x : Nat) (hc : W32 (Cl x)) (w : World) (n : Nat) : Calls Trym.prog 26 #[.int .i32 (Cl x), .bool (An x)] (w.drewN n) fun e w'' => e = .returned (.int .i64 (keyZ Cl An x)) ∧ ∃ m, w'' = w.drewN m :=
  Calls.quiet_of_same (key_any (Cl x) (An x) hc (w.drewN n))
end Go.Proofs.Qxb6000857aMods.RecW
