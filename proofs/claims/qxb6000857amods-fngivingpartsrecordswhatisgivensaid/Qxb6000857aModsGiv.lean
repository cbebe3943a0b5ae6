/-
  WHAT A giving IS IN MEMORY ('Giv'), and what a part more does to it: contracts of (*giving).add, ZZKeep, ZZAdd (42, 39, 30).
-/
import Derived.Test.Qxb6000857aModsAdd
namespace Go.Proofs.Qxb6000857aMods.GivW
open Go.RowKit MapM AddW
set_option linter.unusedVariables false

/-- The blocks of a giving: its struct, the rows of its maps (false: kept; true: added), its loads, the maps; how many members; the first two fields. -/
structure Sh where
  G : Nat
  RB : Bool → Nat
  LB : Nat
  nm : Nat
  el : Value
  mv : Value
  mb : Bool → Nat → Nat

def cellsG (S : Sh) : Array Value := #[S.el, S.mv, .slice (some ⟨S.RB false, 0, none⟩) S.nm S.nm, .slice (some ⟨S.RB true, 0, none⟩) S.nm S.nm, .slice (some ⟨S.LB, 0, none⟩) S.nm S.nm]

/-- Block b of w is a row of cells of type t, i-th cell g i. -/
def RowIs (w : World) (b : Nat) (t : TypeId) (n : Nat) (g : Nat → Value) : Prop := ∃ cur, w.heap[b]? = some (.cells cur t (0, 0)) ∧ cur.size = n ∧ ∀ i, i < n → cur[i]? = some (g i)

theorem RowIs.cell {w : World} {b n : Nat} {t : TypeId} {g : Nat → Value} (h : RowIs w b t n g) {i : Nat} (hi : i < n) : w.cell? ⟨b, i, none⟩ = some (g i) := by
  obtain ⟨cur, hb, _, hc⟩ := h
  simp [World.cell?, hb, hc i hi]
theorem RowIs.frozen {w : World} {b n : Nat} {t : TypeId} {g : Nat → Value} (h : RowIs w b t n g) (i : Nat) : w.frozen? ⟨b, i, none⟩ = false := by
  obtain ⟨cur, hb, _, hc⟩ := h
  simp [World.frozen?, hb]
theorem RowIs.lt {w : World} {b n : Nat} {t : TypeId} {g : Nat → Value} (h : RowIs w b t n g) : b < w.heap.size := by
  obtain ⟨cur, hb, _⟩ := h
  exact (Array.getElem?_eq_some_iff.1 hb).1
theorem RowIs.same {w w' : World} {b n : Nat} {t : TypeId} {g : Nat → Value} (h : RowIs w b t n g) (e : w'.heap[b]? = w.heap[b]?) : RowIs w' b t n g := by
  obtain ⟨cur, hb, h2⟩ := h; exact ⟨cur, e.trans hb, h2⟩
theorem RowIs.set {w : World} {b n : Nat} {t : TypeId} {g : Nat → Value} (h : RowIs w b t n g) {i : Nat} (hi : i < n) (v : Value) : RowIs (w.setCell ⟨b, i, none⟩ v) b t n (fun j => if j = i then v else g j) := by
  obtain ⟨cur, hb, hs, hc⟩ := h
  have e := setCell_eq_setRow w b i cur t (0, 0) v hb
  rw [e]
  refine ⟨_, setRow_heap w b cur _ t _ hb, by simp [hs], fun j hj => ?_⟩
  by_cases hji : j = i
  · subst hji; simp [hs, hi]
  · rw [Array.getElem?_setIfInBounds_ne (by omega)]; simp [hji, hc j hj]

structure Giv (S : Sh) (B : Nat) (w : World) (cnt : Nat) (f : Bool → Nat → Int → Value) (l : Bool → Nat → Int → List Int) (ld : Nat → Int) : Prop where
  g : w.heap[S.G]? = some (.cells (cellsG S) 63 (0, 0))
  rows : ∀ s, RowIs w (S.RB s) 66 S.nm (fun i => .map (some (S.mb s i)))
  loads : RowIs w S.LB 3 S.nm (fun i => .int .i64 (ld i))
  maps : ∀ s i, i < S.nm → MapAt w (S.mb s i) cnt (f s i)
  owns : ∀ s i c, i < S.nm → W32 c → w.ownsInts B 21 .i32 (f s i c) (l s i c)
  short : ∀ s i c, i < S.nm → W32 c → (l s i c).length ≤ cnt
  apart : ∀ s i c s' i' c' r, i < S.nm → i' < S.nm → W32 c → W32 c' → (f s i c).ownBlock = some r → (f s' i' c').ownBlock = some r → s = s' ∧ i = i' ∧ c = c'
  mapsApart : ∀ s i s' i', i < S.nm → i' < S.nm → S.mb s i = S.mb s' i' → s = s' ∧ i = i'
  bG : B ≤ S.G
  bR : ∀ s, B ≤ S.RB s
  bL : B ≤ S.LB
  bM : ∀ s i, i < S.nm → B ≤ S.mb s i
  ldb : ∀ i, i < S.nm → 0 ≤ ld i ∧ ld i ≤ cnt

variable {S : Sh} {B cnt : Nat} {w : World} {f : Bool → Nat → Int → Value} {l : Bool → Nat → Int → List Int} {ld : Nat → Int}

/-- A row that an element owns: a row of int32. -/
theorem own_heap {w : World} {v : Value} {zs : List Int} (h : w.ownsInts B 21 .i32 v zs) {r : Nat} (hr : v.ownBlock = some r) : ∃ cur, w.heap[r]? = some (.cells cur 21 (0, 0)) := by
  rcases h.1.2 with ⟨rfl, _⟩ | ⟨g, cap, cur, rfl, _, hh, _⟩
  · cases hr
  · simp [Value.ownBlock] at hr; subst hr; exact ⟨cur, hh⟩

theorem Giv.neG (h : Giv S B w cnt f l ld) {s : Bool} {i : Nat} {c : Int} (hi : i < S.nm) (hc : W32 c) : (f s i c).ownBlock ≠ some S.G := fun e => by
  obtain ⟨cur, hh⟩ := own_heap (h.owns s i c hi hc) e
  rw [h.g] at hh; cases hh
theorem Giv.neR (h : Giv S B w cnt f l ld) {s : Bool} {i : Nat} {c : Int} (hi : i < S.nm) (hc : W32 c) (s' : Bool) : (f s i c).ownBlock ≠ some (S.RB s') := fun e => by
  obtain ⟨cur, hh⟩ := own_heap (h.owns s i c hi hc) e
  obtain ⟨cur', hh', _⟩ := h.rows s'
  rw [hh'] at hh; cases hh
theorem Giv.neL (h : Giv S B w cnt f l ld) {s : Bool} {i : Nat} {c : Int} (hi : i < S.nm) (hc : W32 c) : (f s i c).ownBlock ≠ some S.LB := fun e => by
  obtain ⟨cur, hh⟩ := own_heap (h.owns s i c hi hc) e
  obtain ⟨cur', hh', _⟩ := h.loads
  rw [hh'] at hh; cases hh
theorem Giv.neM (h : Giv S B w cnt f l ld) {s : Bool} {i : Nat} {c : Int} (hi : i < S.nm) (hc : W32 c) {s' : Bool} {i' : Nat} (hi' : i' < S.nm) : (f s i c).ownBlock ≠ some (S.mb s' i') := fun e => by
  obtain ⟨cur, hh⟩ := own_heap (h.owns s i c hi hc) e
  exact (h.maps s' i' hi').notCells hh
theorem Giv.GneM (h : Giv S B w cnt f l ld) {s : Bool} {i : Nat} (hi : i < S.nm) : S.G ≠ S.mb s i := fun e => (h.maps s i hi).notCells (e ▸ h.g)
theorem Giv.RneM (h : Giv S B w cnt f l ld) {s : Bool} {i : Nat} (hi : i < S.nm) (s' : Bool) : S.RB s' ≠ S.mb s i := fun e => by
  obtain ⟨cur', hh', _⟩ := h.rows s'
  exact (h.maps s i hi).notCells (e ▸ hh')
theorem Giv.LneM (h : Giv S B w cnt f l ld) {s : Bool} {i : Nat} (hi : i < S.nm) : S.LB ≠ S.mb s i := fun e => by
  obtain ⟨cur', hh', _⟩ := h.loads
  exact (h.maps s i hi).notCells (e ▸ hh')
theorem Giv.GneL (h : Giv S B w cnt f l ld) : S.G ≠ S.LB := fun e => by
  obtain ⟨cur', hh', _⟩ := h.loads
  rw [← e, h.g] at hh'; cases hh'
theorem Giv.RneL (h : Giv S B w cnt f l ld) (s : Bool) : S.RB s ≠ S.LB := fun e => by
  obtain ⟨cur', hh', _⟩ := h.loads
  obtain ⟨cur, hh, _⟩ := h.rows s
  rw [e] at hh; rw [hh] at hh'; cases hh'

theorem Giv.gcell (h : Giv S B w cnt f l ld) (j : Nat) : w.cell? ⟨S.G, j, none⟩ = (cellsG S)[j]? := by simp [World.cell?, h.g]

/-- An element's row stays while other blocks turn. -/
theorem ints_same {w w' : World} {v : Value} {zs : List Int} (h : w.ownsInts B 21 .i32 v zs) (hs : ∀ r, v.ownBlock = some r → w'.heap[r]? = w.heap[r]?) : w'.ownsInts B 21 .i32 v zs := by
  obtain ⟨⟨h1, h2⟩, h3⟩ := h
  refine ⟨⟨h1, ?_⟩, h3⟩
  rcases h2 with h2 | ⟨g, cap, cur, hv, hb, hh, hr⟩
  · exact .inl h2
  · exact .inr ⟨g, cap, cur, hv, hb, (hs g (by rw [hv]; rfl)).trans hh, hr⟩

/-- Nothing that lay there has turned. -/
theorem Giv.below (h : Giv S B w cnt f l ld) {w' : World} (hb : Below w.heap.size w w') : Giv S B w' cnt f l ld := by
  have hG : S.G < w.heap.size := (Array.getElem?_eq_some_iff.1 h.g).1
  refine ⟨(hb.block _ hG).trans h.g, fun s => (h.rows s).same (hb.block _ (h.rows s).lt), h.loads.same (hb.block _ h.loads.lt), fun s i hi => (h.maps s i hi).block (hb.block _ (h.maps s i hi).lt), fun s i c hi hc => ?_, h.short, h.apart, h.mapsApart, h.bG, h.bR, h.bL, h.bM, h.ldb⟩
  refine ints_same (h.owns s i c hi hc) (fun r hr => ?_)
  obtain ⟨cur, hh⟩ := own_heap (h.owns s i c hi hc) hr
  exact hb.block _ (Array.getElem?_eq_some_iff.1 hh).1

/-- One list more at (s, i, c). -/
def updF {α : Type} (f : Bool → Nat → Int → α) (s : Bool) (i : Nat) (c : Int) (v : α) : Bool → Nat → Int → α := fun s' i' c' => if s' = s ∧ i' = i ∧ c' = c then v else f s' i' c'
def updL (ld : Nat → Int) (i : Nat) (v : Int) : Nat → Int := fun j => if j = i then v else ld j

/-- The blocks that a store into the giving may turn. -/
def Uses (S : Sh) (f : Bool → Nat → Int → Value) (b : Nat) : Prop := b = S.LB ∨ (∃ s i, i < S.nm ∧ b = S.mb s i) ∨ ∃ s i c, i < S.nm ∧ W32 c ∧ (f s i c).ownBlock = some b
/-- What else lay there is as it was; and what is used now was used before or is new. -/
def Fr (S : Sh) (f f' : Bool → Nat → Int → Value) (w w' : World) : Prop := (∀ b, b < w.heap.size → ¬ Uses S f b → w'.heap[b]? = w.heap[b]?) ∧ ∀ b, Uses S f' b → Uses S f b ∨ w.heap.size ≤ b

theorem Giv.uses_lt (h : Giv S B w cnt f l ld) {b : Nat} (hu : Uses S f b) : b < w.heap.size := by
  rcases hu with rfl | ⟨s, i, hi, rfl⟩ | ⟨s, i, c, hi, hc, hr⟩
  · exact h.loads.lt
  · exact (h.maps s i hi).lt
  · obtain ⟨cur, hh⟩ := own_heap (h.owns s i c hi hc) hr
    exact (Array.getElem?_eq_some_iff.1 hh).1

theorem Giv.step_fr (h : Giv S B w cnt f l ld) {s : Bool} {i : Nat} {c : Int} (hi : i < S.nm) (hc : W32 c) {w1 w2 : World} {v : Value} {q : Int}
    (g1 : w.grownBy w1 (f s i c).ownBlock) (hv : (f s i c).ownBlock = v.ownBlock ∨ ∀ r, v.ownBlock = some r → w.heap.size ≤ r) (g2 : w1.grownBy w2 (some (S.mb s i))) :
    Fr S f (updF f s i c v) w (w2.setCell ⟨S.LB, i, none⟩ (.int .i64 q)) := by
  refine ⟨fun b hb hu => ?_, fun b hu => ?_⟩
  · have n1 : b ≠ S.LB := fun e => hu (.inl e)
    have n2 : b ≠ S.mb s i := fun e => hu (.inr (.inl ⟨s, i, hi, e⟩))
    have n3 : some b ≠ (f s i c).ownBlock := fun e => hu (.inr (.inr ⟨s, i, c, hi, hc, e.symm⟩))
    rw [Below.heap_setCell _ _ _ _ n1]
    exact (g2.block b (Nat.lt_of_lt_of_le hb g1.size) (by simpa using n2)).trans (g1.block b hb n3)
  · rcases hu with e | ⟨s', i', hi', e⟩ | ⟨s', i', c', hi', hc', hr⟩
    · exact .inl (.inl e)
    · exact .inl (.inr (.inl ⟨s', i', hi', e⟩))
    · unfold updF at hr
      split at hr
      · rcases hv with hv | hv
        · exact .inl (.inr (.inr ⟨s, i, c, hi, hc, hv.trans hr⟩))
        · exact .inr (hv b hr)
      · exact .inl (.inr (.inr ⟨s', i', c', hi', hc', hr⟩))

/-- WHAT ONE STORE AT (s, i, c) DOES: the element's row or a new one is written, the map, the load. -/
theorem Giv.step (h : Giv S B w cnt f l ld) {s : Bool} {i : Nat} {c : Int} (hi : i < S.nm) (hc : W32 c) {w1 w2 : World} {v : Value} {zs : List Int} {q : Int}
    (g1 : w.grownBy w1 (f s i c).ownBlock) (o1 : w1.ownsInts B 21 .i32 v zs) (hz : zs.length ≤ cnt + 1) (hv : (f s i c).ownBlock = v.ownBlock ∨ ∀ r, v.ownBlock = some r → w.heap.size ≤ r)
    (m2 : MapAt w2 (S.mb s i) (cnt + 1) (fun x => if x = c then v else f s i x)) (g2 : w1.grownBy w2 (some (S.mb s i))) (hq0 : 0 ≤ q) (hq : q ≤ cnt + 1) :
    Giv S B (w2.setCell ⟨S.LB, i, none⟩ (.int .i64 q)) (cnt + 1) (updF f s i c v) (updF l s i c zs) (updL ld i q) ∧ Below B w (w2.setCell ⟨S.LB, i, none⟩ (.int .i64 q)) := by
  have hfar : ∀ b, b < w.heap.size → some b ≠ (f s i c).ownBlock → b ≠ S.mb s i → w2.heap[b]? = w.heap[b]? := fun b h1 h2 h3 => (g2.block b (Nat.lt_of_lt_of_le h1 g1.size) (by simpa using h3)).trans (g1.block b h1 h2)
  have hset : ∀ b, b ≠ S.LB → (w2.setCell ⟨S.LB, i, none⟩ (.int .i64 q)).heap[b]? = w2.heap[b]? := fun b hb => Below.heap_setCell _ _ _ _ hb
  have hG : S.G < w.heap.size := (Array.getElem?_eq_some_iff.1 h.g).1
  have hvm : ∀ r, v.ownBlock = some r → ∃ cur, w1.heap[r]? = some (.cells cur 21 (0, 0)) := fun r hr => own_heap o1 hr
  have hm1 : MapAt w1 (S.mb s i) cnt (f s i) := (h.maps s i hi).kept g1 (Ne.symm (h.neM hi hc hi))
  have hnew : ∀ r, v.ownBlock = some r → r ≠ S.LB := fun r hr e => by
    obtain ⟨cur, hh⟩ := hvm r hr
    obtain ⟨cur', hh', _⟩ := h.loads
    have := (g1.block S.LB h.loads.lt (Ne.symm (h.neL hi hc))).trans hh'
    rw [e, this] at hh; cases hh
  have hnewM : ∀ r, v.ownBlock = some r → r ≠ S.mb s i := fun r hr e => by
    obtain ⟨cur, hh⟩ := hvm r hr
    exact hm1.notCells (e ▸ hh)
  -- an old element's row, other than (s, i, c)'s
  have hold : ∀ s' i' c', i' < S.nm → W32 c' → ¬ (s' = s ∧ i' = i ∧ c' = c) → ∀ r, (f s' i' c').ownBlock = some r → r < w.heap.size ∧ some r ≠ (f s i c).ownBlock ∧ r ≠ S.mb s i ∧ r ≠ S.LB ∧ v.ownBlock ≠ some r := by
    intro s' i' c' hi' hc' hne r hr
    obtain ⟨cur, hh⟩ := own_heap (h.owns s' i' c' hi' hc') hr
    have hlt : r < w.heap.size := (Array.getElem?_eq_some_iff.1 hh).1
    have n1 : some r ≠ (f s i c).ownBlock := fun e => hne (h.apart s' i' c' s i c r hi' hi hc' hc hr e.symm)
    refine ⟨hlt, n1, fun e => h.neM hi' hc' hi (hr.trans (by rw [e])), fun e => h.neL hi' hc' (hr.trans (by rw [e])), fun e => ?_⟩
    rcases hv with hv | hv
    · exact n1 (by rw [hv, e])
    · have := hv r e; omega
  refine ⟨⟨?_, fun s' => ?_, ?_, fun s' i' hi' => ?_, fun s' i' c' hi' hc' => ?_, fun s' i' c' hi' hc' => ?_, fun s' i' c' s'' i'' c'' r hi' hi'' hc' hc'' h1 h2 => ?_, h.mapsApart, h.bG, h.bR, h.bL, h.bM, fun j hj => ?_⟩, ?_⟩
  · rw [hset _ h.GneL, hfar _ hG (Ne.symm (h.neG hi hc)) (h.GneM hi)]; exact h.g
  · exact (h.rows s').same (by rw [hset _ (h.RneL s'), hfar _ (h.rows s').lt (Ne.symm (h.neR hi hc s')) (h.RneM hi s')])
  · have hl2 : RowIs w2 S.LB 3 S.nm (fun j => .int .i64 (ld j)) := h.loads.same (hfar _ h.loads.lt (Ne.symm (h.neL hi hc)) (h.LneM hi))
    have := hl2.set hi (.int .i64 q)
    obtain ⟨cur, a1, a2, a3⟩ := this
    refine ⟨cur, a1, a2, fun j hj => (a3 j hj).trans ?_⟩
    by_cases hji : j = i
    · simp [updL, hji]
    · simp [updL, hji]
  · by_cases e : s' = s ∧ i' = i
    · obtain ⟨rfl, rfl⟩ := e
      have e2 : (updF f s' i' c v) s' i' = (fun x => if x = c then v else f s' i' x) := by
        funext x; unfold updF
        by_cases hx : x = c
        · simp [hx]
        · simp [hx]
      rw [e2]
      exact m2.block (hset _ (Ne.symm (h.LneM hi)))
    · have e2 : (updF f s i c v) s' i' = f s' i' := by
        funext x; unfold updF
        rw [if_neg (fun hx => e ⟨hx.1, hx.2.1⟩)]
      rw [e2]
      have hne : S.mb s' i' ≠ S.mb s i := fun e3 => e (h.mapsApart _ _ _ _ hi' hi e3)
      exact ((h.maps s' i' hi').mono (Nat.le_succ _)).block (by rw [hset _ (Ne.symm (h.LneM hi')), hfar _ (h.maps s' i' hi').lt (Ne.symm (h.neM hi hc hi')) hne])
  · by_cases e : s' = s ∧ i' = i ∧ c' = c
    · have e1 : updF f s i c v s' i' c' = v := by unfold updF; rw [if_pos e]
      have e2 : updF l s i c zs s' i' c' = zs := by unfold updF; rw [if_pos e]
      rw [e1, e2]
      refine ints_same o1 (fun r hr => ?_)
      obtain ⟨cur, hh⟩ := hvm r hr
      rw [hset _ (hnew r hr)]
      exact g2.block r (Array.getElem?_eq_some_iff.1 hh).1 (by simpa using hnewM r hr)
    · have e1 : updF f s i c v s' i' c' = f s' i' c' := by unfold updF; rw [if_neg e]
      have e2 : updF l s i c zs s' i' c' = l s' i' c' := by unfold updF; rw [if_neg e]
      rw [e1, e2]
      refine ints_same (h.owns s' i' c' hi' hc') (fun r hr => ?_)
      obtain ⟨a1, a2, a3, a4, _⟩ := hold s' i' c' hi' hc' e r hr
      rw [hset _ a4, hfar r a1 a2 a3]
  · unfold updF
    split
    · exact hz
    · exact Nat.le_trans (h.short s' i' c' hi' hc') (Nat.le_succ _)
  · by_cases e : s' = s ∧ i' = i ∧ c' = c
    · by_cases e' : s'' = s ∧ i'' = i ∧ c'' = c
      · obtain ⟨rfl, rfl, rfl⟩ := e; obtain ⟨rfl, rfl, rfl⟩ := e'; exact ⟨rfl, rfl, rfl⟩
      · have a1 : updF f s i c v s' i' c' = v := by unfold updF; rw [if_pos e]
        have a2 : updF f s i c v s'' i'' c'' = f s'' i'' c'' := by unfold updF; rw [if_neg e']
        rw [a1] at h1; rw [a2] at h2
        exact absurd h1 (hold s'' i'' c'' hi'' hc'' e' r h2).2.2.2.2
    · have a1 : updF f s i c v s' i' c' = f s' i' c' := by unfold updF; rw [if_neg e]
      rw [a1] at h1
      by_cases e' : s'' = s ∧ i'' = i ∧ c'' = c
      · have a2 : updF f s i c v s'' i'' c'' = v := by unfold updF; rw [if_pos e']
        rw [a2] at h2
        exact absurd h2 (hold s' i' c' hi' hc' e r h1).2.2.2.2
      · have a2 : updF f s i c v s'' i'' c'' = f s'' i'' c'' := by unfold updF; rw [if_neg e']
        rw [a2] at h2
        exact h.apart s' i' c' s'' i'' c'' r hi' hi'' hc' hc'' h1 h2
  · unfold updL
    split
    · exact ⟨hq0, by omega⟩
    · have := h.ldb j hj; omega
  · have b1 : Below B w w1 := by
      refine (Below.refl B w).grown g1 ?_ (fun k hk => ?_)
      · have := h.bG; omega
      · exact ((h.owns s i c hi hc).1.lt k hk).1
    have b2 : Below B w w2 := by
      refine b1.grown g2 ?_ (fun k hk => ?_)
      · have := h.bG; have := g1.size; omega
      · cases hk; exact h.bM s i hi
    exact b2.setCell (by exact h.bL) _

theorem add_any (h : Giv S B w cnt f l ld) (hcnt : cnt ≤ 500000) (i : Nat) (hi : i < S.nm) (c p : Int) (hc : W32 c) (hp : W32 p) :
    Calls Trym.prog 42 #[.pointer (some ⟨S.G, 0, none⟩), .int .i64 i, .int .i32 c, .int .i32 p] w fun e w' => e = .returned (.tuple #[]) ∧
      ∃ f', Giv S B w' (cnt + 1) f' (updF l true i c (l true i c ++ [p])) (updL ld i (ld i + 1)) ∧ Below B w w' ∧ Fr S f f' w w' := by
  have hld := h.ldb i hi
  have hsh := h.short true i c hi hc
  have hB : B ≤ w.heap.size := by have := h.bG; have := (Array.getElem?_eq_some_iff.1 h.g).1; omega
  refine (add_raw S.G (S.RB true) S.LB S.nm i (S.mb true i) cnt B c p (ld i) (f true i) (f true i c) (l true i c) w (by rw [h.gcell]; rfl) (by rw [h.gcell]; rfl) ((h.rows true).cell hi) (h.loads.cell hi) (h.loads.frozen i) hi hc hp (h.maps true i hi) rfl (h.owns true i c hi hc) hB
    (by omega) (by omega) (by omega) (by omega) (h.neG hi hc) (h.neR hi hc true) (h.neL hi hc) (h.neM hi hc hi) (h.GneM hi) (h.RneM hi true) (h.LneM hi)).mono ?_
  rintro e w' ⟨rfl, gg, cap, w1, w2, rfl, g1, o1, hat, m2, g2⟩
  have hv : (f true i c).ownBlock = (Value.slice (some ⟨gg, 0, none⟩) ((l true i c).length + 1) cap).ownBlock ∨ ∀ r, (Value.slice (some ⟨gg, 0, none⟩) ((l true i c).length + 1) cap).ownBlock = some r → w.heap.size ≤ r := hat.elim (fun e => .inl e) (fun e => .inr (fun r hr => by cases hr; exact e))
  have hst := h.step (q := ld i + 1) hi hc g1 o1 (by simp; omega) hv m2 g2 (by omega) (by omega)
  exact ⟨rfl, _, hst.1, hst.2, h.step_fr hi hc g1 hv g2⟩

theorem keep_any (h : Giv S B w cnt f l ld) (hcnt : cnt ≤ 500000) (i : Nat) (hi : i < S.nm) (c p : Int) (hc : W32 c) (hp : W32 p) :
    Calls Trym.prog 39 #[.pointer (some ⟨S.G, 0, none⟩), .int .i64 i, .int .i32 c, .int .i32 p] w fun e w' => e = .returned (.tuple #[]) ∧
      ∃ f', Giv S B w' (cnt + 1) f' (updF l false i c (l false i c ++ [p])) (updL ld i (ld i + 1)) ∧ Below B w w' ∧ Fr S f f' w w' := by
  have hld := h.ldb i hi
  have hsh := h.short false i c hi hc
  have hB : B ≤ w.heap.size := by have := h.bG; have := (Array.getElem?_eq_some_iff.1 h.g).1; omega
  refine (keep_raw S.G (S.RB false) S.LB S.nm i (S.mb false i) cnt B c p (ld i) (f false i) (f false i c) (l false i c) w (by rw [h.gcell]; rfl) (by rw [h.gcell]; rfl) ((h.rows false).cell hi) (h.loads.cell hi) (h.loads.frozen i) hi hc hp (h.maps false i hi) rfl (h.owns false i c hi hc) hB
    (by omega) (by omega) (by omega) (by omega) (h.neG hi hc) (h.neR hi hc false) (h.neL hi hc) (h.neM hi hc hi) (h.GneM hi) (h.RneM hi false) (h.LneM hi)).mono ?_
  rintro e w' ⟨rfl, gg, cap, w1, w2, rfl, g1, o1, hat, m2, g2⟩
  have hv : (f false i c).ownBlock = (Value.slice (some ⟨gg, 0, none⟩) ((l false i c).length + 1) cap).ownBlock ∨ ∀ r, (Value.slice (some ⟨gg, 0, none⟩) ((l false i c).length + 1) cap).ownBlock = some r → w.heap.size ≤ r := hat.elim (fun e => .inl e) (fun e => .inr (fun r hr => by cases hr; exact e))
  have hst := h.step (q := ld i + 1) hi hc g1 o1 (by simp; omega) hv m2 g2 (by omega) (by omega)
  exact ⟨rfl, _, hst.1, hst.2, h.step_fr hi hc g1 hv g2⟩

theorem zzadd_any (h : Giv S B w cnt f l ld) (hcnt : cnt ≤ 500000) (i : Nat) (hi : i < S.nm) (c p : Int) (hc : W32 c) (hp : W32 p) :
    Calls Trym.prog 30 #[.pointer (some ⟨S.G, 0, none⟩), .int .i64 i, .int .i32 c, .int .i32 p] w fun e w' => e = .returned (.tuple #[]) ∧
      ∃ f', Giv S B w' (cnt + 1) f' (updF l true i c (l true i c ++ [p])) (updL ld i (ld i + 1)) ∧ Below B w w' ∧ Fr S f f' w w' := by
  have H : Hid (Giv S B w cnt f l ld) := h
  clear h
  have HC : Hid (W32 c) := hc
  have HP : Hid (W32 p) := hp
  clear hc hp
  go_enter Trym.func30, Trym.ntmps30
  go_wp2_with fail
  refine (add_any H.out hcnt i hi c p HC.out HP.out).mono ?_
  rintro e w' ⟨rfl, f', hg, hb, hf⟩
  have HG := hide hg
  have HB := hide hb
  have HF := hide hf
  clear hg hb hf
  go_wp2
  go_end0
  exact ⟨rfl, f', HG.out, HB.out, HF.out⟩

end Go.Proofs.Qxb6000857aMods.GivW
