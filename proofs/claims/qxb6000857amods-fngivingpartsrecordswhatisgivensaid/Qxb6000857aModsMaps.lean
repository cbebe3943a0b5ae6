/-
  A MAP OF SLICES AS A FUNCTION FROM KEYS TO SLICE VALUES; runs of look-up and store. By the kit's 'ownsMap', its elements read as tokens.
-/
import Derived.Test.Qxb6000857aModsRows
import Derived.WalkKit
import Derived.ProofKit
import Derived.Maps.OwnSet
import Derived.Maps.AppendAt
namespace Go.Proofs.Qxb6000857aMods.MapM
open Go.RowKit
open Go.Maps (Keyed)
set_option linter.unusedVariables false

/-- An element read as the value that it is. -/
def tokR (v : Value) : Option (DataW Value × List MemPlace) := some (.held v, [])
theorem law : Keyed Trym.prog 21 := Maps.int_keyed Trym.underlying21

def W32 (c : Int) : Prop := (Lit.int .i32 c).wf = true

theorem zero24 (w : World) : (zeroValue 24).run Trym.prog w = .ok (.slice none 0 0) w := by kernel_rfl

/-- Block b is a map of at most n entries that gives f c at the key c. -/
def MapAt (w : World) (b n : Nat) (f : Int → Value) : Prop :=
  ∃ D, w.ownsMap Trym.prog 21 tokR b n D ∧ ∀ c, W32 c → D.atKey (.int .i32 c) (.held (.slice none 0 0)) = .held (f c)

theorem MapAt.lt {w : World} {b n : Nat} {f : Int → Value} (h : MapAt w b n f) : b < w.heap.size := by
  obtain ⟨D, h, _⟩ := h; exact h.lt

theorem MapAt.notCells {w : World} {b n : Nat} {f : Int → Value} (h : MapAt w b n f) {c : Array Value} {t : TypeId} {fz : Nat × Nat} (hc : w.heap[b]? = some (.cells c t fz)) : False := by
  obtain ⟨D, ⟨es, clock, hb, _⟩, _⟩ := h
  rw [hb] at hc; cases hc

theorem MapAt.made (w : World) : MapAt (w.alloc (.map #[] 0)) w.heap.size 0 (fun _ => .slice none 0 0) :=
  ⟨_, World.ownsMap_made w _ _ _, fun c _ => rfl⟩

theorem MapAt.mono {w : World} {b n n' : Nat} {f : Int → Value} (h : MapAt w b n f) (hn : n ≤ n') : MapAt w b n' f := by
  obtain ⟨D, h, hf⟩ := h; exact ⟨D, h.mono hn, hf⟩

theorem MapAt.kept {w w' : World} {b n : Nat} {f : Int → Value} {row : Option Nat} (h : MapAt w b n f) (hg : w.grownBy w' row) (hne : some b ≠ row) : MapAt w' b n f := by
  obtain ⟨D, h, hf⟩ := h; exact ⟨D, h.kept hg hne, hf⟩

theorem MapAt.block {w w' : World} {b n : Nat} {f : Int → Value} (h : MapAt w b n f) (hb : w'.heap[b]? = w.heap[b]?) : MapAt w' b n f := by
  obtain ⟨D, ⟨es, clock, h1, h2⟩, hf⟩ := h
  exact ⟨D, ⟨es, clock, hb.trans h1, h2⟩, hf⟩

theorem MapAt.alloc {w : World} {b n : Nat} {f : Int → Value} (h : MapAt w b n f) (o : Obj) : MapAt (w.alloc o) b n f := h.kept (World.grownBy_alloc w o none) (by simp)
theorem MapAt.drew {w : World} {b n : Nat} {f : Int → Value} (h : MapAt w b n f) : MapAt w.drew b n f := h

theorem MapAt.lookup {w : World} {b n : Nat} {f : Int → Value} (h : MapAt w b n f) {c : Int} (hc : W32 c) :
    (Instr.lookup 66 (.map (some b)) (.int .i32 c) false).run Trym.prog w = .ok (f c) w := by
  obtain ⟨D, h, hf⟩ := h
  obtain ⟨v, ps, hrun, hv⟩ := h.lookup law Trym.underlying66 (zero24 w) (rfl : tokR (.slice none 0 0) = some (.held (.slice none 0 0), [])) (Maps.keyOf_int_mk Trym.underlying21 hc)
  rw [hf c hc] at hv
  simp [tokR] at hv
  rw [hrun, hv.1]

theorem MapAt.update {w : World} {b n : Nat} {f : Int → Value} (h : MapAt w b n f) {c : Int} (hc : W32 c) (v : Value) (hn : n < maxLen) :
    ∃ w', (Instr.mapUpdate 66 (.map (some b)) (.int .i32 c) v).run Trym.prog w = .ok () w' ∧ MapAt w' b (n + 1) (fun x => if x = c then v else f x) ∧ w.grownBy w' (some b) := by
  obtain ⟨D, h, hf⟩ := h
  obtain ⟨w', hrun, h', hg⟩ := h.update law Trym.underlying66 hn (Maps.keyOf_int_mk Trym.underlying21 hc) (rfl : tokR v = some (.held v, []))
  refine ⟨w', hrun, ⟨_, h', fun x hx => ?_⟩, hg⟩
  by_cases e : x = c
  · subst e
    simp only [if_true]
    exact Maps.atKey_put_same h.isMap (by trivial) _ _
  · simp only [e, if_false]
    rw [Maps.atKey_put_other (by intro he; cases he; exact e rfl)]
    exact hf x hx

end Go.Proofs.Qxb6000857aMods.MapM
