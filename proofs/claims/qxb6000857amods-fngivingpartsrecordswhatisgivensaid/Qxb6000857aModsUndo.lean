/-
  THE WALK of FnGivingAddThenTakeIsUndone (7).
-/
import Derived.Test.Qxb6000857aModsGuard
import Derived.Test.Qxb6000857aModsBuild
import Derived.Deep.QuietTactic
import Derived.BigQuiet
namespace Go.Proofs.Qxb6000857aMods.UndoW
open Go.RowKit MapM AddW GivW PartsW NewW CopyW GuardW BuildW
set_option linter.unusedVariables false

theorem _root_.Go.Proofs.Qxb6000857aMods.CopyW.Own0.congr {w : World} {a : Option Addr} {n : Nat} {g g' : Nat → Value} (h : Own0 w a n g) (e : ∀ k, k < n → g k = g' k) : Own0 w a n g' := fun h0 => by
  obtain ⟨b, e1, h1⟩ := h h0
  exact ⟨b, e1, fun j hj => (h1 j hj).trans (congrArg some (e j hj))⟩

theorem ints_own {B : Nat} {w : World} {v : Value} {zs : List Int} (h : w.ownsInts B 21 .i32 v zs) : ∃ a cap, v = .slice a zs.length cap ∧ (a = none → zs.length = 0) ∧ (∀ b, a = some b → B ≤ b.block) ∧ Own0 w a zs.length (fun k => .int .i32 (zs.getD k 0)) := by
  obtain ⟨⟨h1, h2⟩, h3⟩ := h
  rcases h2 with ⟨hv, h0⟩ | ⟨g, cap, cur, hv, hb, hh, hn, hc, hs, ht⟩
  · have e : zs = [] := by simpa using h0
    subst e
    exact ⟨none, 0, hv, fun _ => rfl, fun _ h => (by cases h), fun h => absurd h (by simp)⟩
  · refine ⟨_, cap, hv, fun h => (by cases h), fun b hb' => (by cases hb'; exact hb), fun _ => ⟨g, rfl, fun j hj => ?_⟩⟩
    simp only [Nat.mul_one] at ht hs
    have e : (cur.toList.take zs.length)[j]? = some (.int .i32 (zs.getD j 0)) := by
      rw [ht]; simp [List.getD_eq_getElem?_getD, List.getElem?_eq_getElem hj]
    rw [List.getElem?_take, if_pos hj] at e
    simp [World.cell?, hh]; simpa using e

variable {S : Sh} {B cnt : Nat} {w : World} {f : Bool → Nat → Int → Value} {l : Bool → Nat → Int → List Int} {ld : Nat → Int}

theorem giv_heap {w' : World} (h : Giv S B w cnt f l ld) (e : w'.heap = w.heap) : Giv S B w' cnt f l ld := by
  have hb : ∀ b : Nat, w'.heap[b]? = w.heap[b]? := fun b => by rw [e]
  refine ⟨(hb _).trans h.g, fun s => (h.rows s).same (hb _), h.loads.same (hb _), fun s i hi => (h.maps s i hi).block (hb _), fun s i c hi hc => ints_same (h.owns s i c hi hc) (fun r _ => hb r), h.short, h.apart, h.mapsApart, h.bG, h.bR, h.bL, h.bM, h.ldb⟩

theorem load_q (h : Giv S B w cnt f l ld) (i : Nat) (hi : i < S.nm) (n : Nat) :
    Calls Trym.prog 29 #[.pointer (some ⟨S.G, 0, none⟩), .int .i64 i] (w.drewN n) fun e w'' => e = .returned (.int .i64 (ld i)) ∧ ∃ m, w'' = w.drewN m :=
  Calls.quiet_of_same ((load_any (giv_heap h (by simp)) i hi).mono fun _ _ ⟨h1, h2⟩ => ⟨h1, h2.symm⟩)

/-- A block that is none of the giving's stays while a part is added and taken. -/
theorem kept2 {w0 w1 w2 : World} {f1 f2 : Bool → Nat → Int → Value} {h0 b : Nat} (hu : ∀ b, Uses S f b → b < h0) (a : Fr S f f1 w0 w1) (t : Fr S f1 f2 w1 w2) (hs : w0.heap.size ≤ w1.heap.size) (h1 : h0 ≤ b) (h2 : b < w0.heap.size) : w2.heap[b]? = w0.heap[b]? := by
  have n1 : ¬ Uses S f b := fun h => by have := hu b h; omega
  refine (t.1 b (by omega) fun h => ?_).trans (a.1 b h2 n1)
  rcases a.2 b h with h | h
  · exact n1 h
  · omega

theorem nxt {w w1 w2 : World} (h : Below w.heap.size w w1) (k : Below w1.heap.size w1 w2) : Below w.heap.size w w2 := h.trans (k.mono h.size)
theorem bel_drewN (B : Nat) (w : World) (d : Nat) : Below B w (w.drewN d) := ⟨rfl, rfl, rfl, Nat.le_refl _, fun _ _ => rfl⟩

theorem load_qv (h : Giv S B w cnt f l ld) (i : Nat) (hi : i < S.nm) (n : Nat) (q : Int) (hq : ld i = q) :
    Calls Trym.prog 29 #[.pointer (some ⟨S.G, 0, none⟩), .int .i64 i] (w.drewN n) fun e w'' => e = .returned (.int .i64 q) ∧ ∃ m, w'' = w.drewN m := hq ▸ load_q h i hi n
theorem fr_drewN {w1 w2 : World} {f1 : Bool → Nat → Int → Value} {d : Nat} (h : Fr S f f1 (w1.drewN d) w2) : Fr S f f1 w1 w2 := h

theorem updF_back (l : Bool → Nat → Int → List Int) (s : Bool) (i : Nat) (c : Int) (z : List Int) : updF (updF l s i c z) s i c (l s i c) = l := by
  funext s' i' c'
  unfold updF
  by_cases e : s' = s ∧ i' = i ∧ c' = c
  · rw [if_pos e]; obtain ⟨rfl, rfl, rfl⟩ := e; rfl
  · rw [if_neg e, if_neg e]
theorem updL_back (ld : Nat → Int) (i : Nat) : updL (updL ld i (ld i + 1)) i (updL ld i (ld i + 1) i - 1) = ld := by
  funext j
  unfold updL
  by_cases e : j = i
  · subst e; simp
  · simp [e]

end Go.Proofs.Qxb6000857aMods.UndoW
