/-
  THE WALK of zzClone (function 12), and small laws on rows of bytes.
-/
import Derived.Test.Qxb6600720aModsRows
import Derived.WalkKit
import Derived.ProofKit
import Derived.WalkSpells
import Derived.Laws.CopyOwn
import Derived.Lib.LazyBuf
namespace Go.Proofs.Qxb6600720aMods.Mem
open Go.RowKit
set_option linter.unusedVariables false

theorem info5 : (Trym.prog.info? 5).map (fun i => (i.zero, i.size, i.bytes)) = some (some (.int .u8 0), 1, 1) := by kernel_rfl
theorem size5 : (Trym.prog.info? 5).map (·.size) = some 1 := by kernel_rfl

/-- A list of bytes as cells. -/
def cells (l : List Int) : List Value := l.map (Value.int .u8)

theorem cells_length (l : List Int) : (cells l).length = l.length := by simp [cells]
theorem cells_one (l : List Int) : ∀ v ∈ cells l, v.oneCell' = true := by
  intro v hv; simp [cells] at hv; obtain ⟨n, _, rfl⟩ := hv; rfl

/-- The block g of w holds just the bytes l. -/
def Block (w : World) (g : Nat) (l : List Int) : Prop := w.heap[g]? = some (.cells (cells l).toArray 5 (0, 0))

/-- From place off of block b on lie the bytes l. -/
def Bytes (w : World) (b off : Nat) (l : List Int) : Prop := ∀ j, j < l.length → w.cell? ⟨b, off + j, none⟩ = some (.int .u8 (l.getD j 0))

theorem Block.bytes {w : World} {g : Nat} {l : List Int} (h : Block w g l) : Bytes w g 0 l := by
  intro j hj
  unfold Block at h
  simp [World.cell?, h, cells, hj, List.getD]

theorem Bytes.drop {w : World} {b off : Nat} {l : List Int} (h : Bytes w b off l) (k : Nat) : Bytes w b (off + k) (l.drop k) := by
  intro j hj
  simp at hj
  have := h (k + j) (by omega)
  rw [Nat.add_assoc, this]; simp [List.getD, List.getElem?_drop]

theorem Bytes.take {w : World} {b off : Nat} {l : List Int} (h : Bytes w b off l) (k : Nat) : Bytes w b off (l.take k) := by
  intro j hj
  simp at hj
  rw [h j (by omega)]
  simp [List.getD, show j < k by omega]

theorem Block.below {w w' : World} {g : Nat} {l : List Int} (h : Block w g l) {B : Nat} (hb : Below B w w') (hg : g < B) : Block w' g l := by
  unfold Block at *; rw [hb.block g hg]; exact h

theorem Bytes.below {w w' : World} {b off : Nat} {l : List Int} (h : Bytes w b off l) {B : Nat} (hb : Below B w w') (hg : b < B) : Bytes w' b off l := by
  intro j hj; rw [hb.cell (by exact hg)]; exact h j hj

theorem cell_lt {w : World} {a : Addr} {v : Value} (h : w.cell? a = some v) : a.block < w.heap.size := by
  by_cases hb : a.block < w.heap.size
  · exact hb
  · have : w.heap[a.block]? = none := Array.getElem?_eq_none (by omega)
    simp [World.cell?, this] at h

theorem clone_row (x : Addr) (len cap : Nat) (z : List Int) (w : World) (hl : len ≤ cap) (hm : len ≤ 1048576) (hz : z.length = cap)
    (hc : ∀ i, i < z.length → w.cell? (x.add i) = some (.int .u8 (z.getD i 0))) :
    Calls Trym.prog 12 #[.slice (some x) len cap] w fun e w' => e = .returned (.slice (some ⟨w.heap.size, 0, none⟩) len len) ∧
      Below w.heap.size w w' ∧ Block w' w.heap.size (z.take len) ∧ w'.heap.size = w.heap.size + 1 := by
  obtain ⟨i0, hi, hz0, hz1, hz2⟩ := info_parts info5
  have hn := fun w => run_eql_slice_nil (P := Trym.prog) w 22 5 (some x) len cap Trym.underlying22
  have hmk := run_make (P := Trym.prog) w 22 5 i0 (.int .u8 0) Trym.underlying22 hi hz0 .i64 .i64 len len (by omega) (by omega) (by rw [hz2]; omega) (by omega)
  simp only [hz1, Int.toNat_natCast, Nat.mul_one] at hmk
  have hlen : (cells (z.take len)).length = len := by simp [cells]; omega
  have hcp : ∃ w', Sem.run Trym.prog (Builtin.copy_ #[22, 22] 3 #[Value.slice (some ⟨w.heap.size, 0, none⟩) len len, Value.slice (some x) len cap]) (w.alloc (Obj.cells (madeCells #[Value.int IntKind.u8 0] len) 5)) = .ok (goInt len) w' ∧
      Below w.heap.size w w' ∧ Block w' w.heap.size (z.take len) ∧ w'.heap.size = w.heap.size + 1 := by
    have hg : (w.alloc (Obj.cells (madeCells #[Value.int IntKind.u8 0] len) 5)).heap[w.heap.size]? = some (.cells (madeCells #[Value.int IntKind.u8 0] len) 5 (0, 0)) := (MapKept.heap_alloc w _).1
    have hsz : (madeCells #[Value.int IntKind.u8 0] len).size = len := by simp [madeCells]
    have h := run_copy_row (P := Trym.prog) (w.alloc (Obj.cells (madeCells #[Value.int IntKind.u8 0] len) 5)) 22 22 3 5 w.heap.size 0 len len x len cap _ 5 (cells (z.take len)) Trym.underlying22 size5 hg
      (by rw [hlen]; exact (Nat.min_self _).symm) (fun j v hj => by
        have hjl : j < len := by have := (List.getElem?_eq_some_iff.1 hj).1; omega
        have h2 := hc j (by omega)
        have hb : (x.add j).block < w.heap.size := cell_lt h2
        rw [World.cell?_alloc_lt _ _ _ hb, h2]
        simp only [cells, List.getElem?_map, List.getElem?_take, hjl, if_true] at hj
        cases e : z[j]? with
        | none => simp [e] at hj
        | some y => simp [e] at hj; subst hj; simp [List.getD, e]) (by rw [hlen, hsz]; omega) (cells_one _)
    rw [hlen] at h
    refine ⟨_, h, ?_, ?_, ?_⟩
    · exact below_setRow ((Below.refl _ _).alloc (Nat.le_refl _) _) (Nat.le_refl _) _
    · unfold Block
      rw [setRow_heap _ _ _ _ 5 _ hg]
      simp [hsz]
    · simp [World.setRow]
  obtain ⟨w', hcp, hb, hbl, hs⟩ := hcp
  go_enter Trym.func12, Trym.ntmps12
  go_wp2
  go_ret
  exact ⟨rfl, hb, hbl, hs⟩

theorem clone_nil (w : World) : Calls Trym.prog 12 #[.slice none 0 0] w fun e w' => e = .returned (.slice none 0 0) ∧ w' = w := by
  have hn := fun w => run_eql_slice_nil (P := Trym.prog) w 22 5 none 0 0 Trym.underlying22
  go_enter Trym.func12, Trym.ntmps12
  go_wp2
  go_ret
  exact ⟨rfl, rfl⟩

end Go.Proofs.Qxb6600720aMods.Mem
