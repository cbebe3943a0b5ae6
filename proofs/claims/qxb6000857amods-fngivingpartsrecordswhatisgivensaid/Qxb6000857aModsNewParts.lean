/-
  newGiving, outside the walk: what memory is like at each stage.
-/
import Derived.Test.Qxb6000857aModsGiv
namespace Go.Proofs.Qxb6000857aMods.NewW
open Go.RowKit MapM AddW GivW
set_option linter.unusedVariables false

/-- The eligible lists: each entry a member. -/
def Elig (w : World) (ea : Option Addr) (C n : Nat) : Prop :=
  ∀ c, c < C → ∃ b a len cap, ea = some ⟨b, 0, none⟩ ∧ w.cell? ⟨b, c, none⟩ = some (.slice a len cap) ∧ len ≤ 4096 ∧ (0 < len → ∃ r, a = some ⟨r, 0, none⟩ ∧ ∀ k, k < len → ∃ z : Nat, w.cell? ⟨r, k, none⟩ = some (.int .i64 (z : Int)) ∧ z < n)

theorem cell_lt {w : World} {a : Addr} {v : Value} (h : w.cell? a = some v) : a.block < w.heap.size := World.block_lt_of_cell? w _ h

theorem Elig.below {w w' : World} {ea : Option Addr} {C n : Nat} (h : Elig w ea C n) (hb : Below w.heap.size w w') : Elig w' ea C n := by
  intro c hc
  obtain ⟨b, a, len, cap, h1, h2, h3, h4⟩ := h c hc
  refine ⟨b, a, len, cap, h1, (hb.cell (cell_lt h2)).trans h2, h3, fun h0 => ?_⟩
  obtain ⟨r, e, h5⟩ := h4 h0
  refine ⟨r, e, fun k hk => ?_⟩
  obtain ⟨z, h6, h7⟩ := h5 k hk
  exact ⟨z, (hb.cell (cell_lt h6)).trans h6, h7⟩

/-- Stage: the struct and its four rows are there; the first k members have their maps. -/
structure St (w0 : World) (n C : Nat) (el : Value) (G MB K A L : Nat) (k : Nat) (mb : Bool → Nat → Nat) (w : World) : Prop where
  g : w.heap[G]? = some (.cells #[el, .slice (some ⟨MB, 0, none⟩) C C, .slice (some ⟨K, 0, none⟩) n n, .slice (some ⟨A, 0, none⟩) n n, .slice (some ⟨L, 0, none⟩) n n] 63 (0, 0))
  m : ∃ h, RowIs w MB 25 C h
  kr : RowIs w K 66 n (fun i => if i < k then .map (some (mb false i)) else .map none)
  ar : RowIs w A 66 n (fun i => if i < k then .map (some (mb true i)) else .map none)
  l : RowIs w L 3 n (fun _ => .int .i64 0)
  ka : K ≠ A
  bG : w0.heap.size ≤ G
  bM : w0.heap.size ≤ MB
  bK : w0.heap.size ≤ K
  bA : w0.heap.size ≤ A
  bL : w0.heap.size ≤ L
  maps : ∀ s i, i < k → MapAt w (mb s i) 0 (fun _ => .slice none 0 0)
  apart : ∀ s i s' i', i < k → i' < k → mb s i = mb s' i' → s = s' ∧ i = i'
  bm : ∀ s i, i < k → w0.heap.size ≤ mb s i
  below : Below w0.heap.size w0 w

variable {w0 : World} {n C : Nat} {el : Value} {G MB K A L k : Nat} {mb : Bool → Nat → Nat} {w : World}

theorem St.gcell (h : St w0 n C el G MB K A L k mb w) (j : Nat) : w.cell? ⟨G, j, none⟩ = (#[el, .slice (some ⟨MB, 0, none⟩) C C, .slice (some ⟨K, 0, none⟩) n n, .slice (some ⟨A, 0, none⟩) n n, .slice (some ⟨L, 0, none⟩) n n] : Array Value)[j]? := by simp [World.cell?, h.g]
theorem St.glt (h : St w0 n C el G MB K A L k mb w) : G < w.heap.size := (Array.getElem?_eq_some_iff.1 h.g).1

theorem row_ne {w : World} {a b n n' : Nat} {t t' : TypeId} {g g' : Nat → Value} (h : RowIs w a t n g) (h' : RowIs w b t' n' g') (ht : t ≠ t') : a ≠ b := fun e => by
  subst e
  obtain ⟨c, h1, _⟩ := h
  obtain ⟨c', h2, _⟩ := h'
  rw [h1] at h2; cases h2; exact ht rfl
theorem row_neG {w : World} {a b n : Nat} {t t' : TypeId} {g : Nat → Value} {c : Array Value} (h : RowIs w a t n g) (h' : w.heap[b]? = some (.cells c t' (0, 0))) (ht : t ≠ t') : b ≠ a := fun e => by
  subst e
  obtain ⟨c, h1, _⟩ := h
  rw [h1] at h'; cases h'; exact ht rfl

/-- Only a block that the stage does not name has turned, or may's row. -/
theorem St.turn (h : St w0 n C el G MB K A L k mb w) {w' : World} (hb : Below w0.heap.size w0 w') (hm : ∃ g, RowIs w' MB 25 C g) (hs : ∀ b, b < w.heap.size → b ≠ MB → (∃ c t, t ≠ 4 ∧ w.heap[b]? = some (.cells c t (0, 0))) ∨ (∃ es cl, w.heap[b]? = some (.map es cl)) → w'.heap[b]? = w.heap[b]?) :
    St w0 n C el G MB K A L k mb w' := by
  obtain ⟨hh, hmr⟩ := h.m
  have cell : ∀ {b t m} {g : Nat → Value}, t ≠ 4 → RowIs w b t m g → b ≠ MB → w'.heap[b]? = w.heap[b]? := fun ht hr hne => hs _ hr.lt hne (.inl (by obtain ⟨c, hc, _⟩ := hr; exact ⟨c, _, ht, hc⟩))
  refine ⟨(hs G h.glt (row_neG hmr h.g (by decide)) (.inl ⟨_, 63, by decide, h.g⟩)).trans h.g, hm, h.kr.same (cell (by decide) h.kr (row_ne h.kr hmr (by decide))), h.ar.same (cell (by decide) h.ar (row_ne h.ar hmr (by decide))), h.l.same (cell (by decide) h.l (row_ne h.l hmr (by decide))), h.ka, h.bG, h.bM, h.bK, h.bA, h.bL, fun s i hi => ?_, h.apart, h.bm, hb⟩
  have hmap := h.maps s i hi
  obtain ⟨D, ⟨es, cl, h1, _⟩, _⟩ := hmap
  refine (h.maps s i hi).block (hs _ (h.maps s i hi).lt (fun e => ?_) (.inr ⟨es, cl, h1⟩))
  obtain ⟨c, hc, _⟩ := hmr
  exact (h.maps s i hi).notCells (e ▸ hc)

/-- may's row gets a new row. -/
theorem St.may (h : St w0 n C el G MB K A L k mb w) {c : Nat} (hc : c < C) (o : Obj) (v : Value) : St w0 n C el G MB K A L k mb ((w.alloc o).setCell ⟨MB, c, none⟩ v) := by
  obtain ⟨hh, hmr⟩ := h.m
  refine h.turn ((h.below.alloc h.below.size o).setCell h.bM v) ⟨_, (hmr.same (Below.heap_alloc w o MB hmr.lt)).set hc v⟩ (fun b h1 h2 _ => ?_)
  rw [Below.heap_setCell _ _ _ _ h2]; exact Below.heap_alloc w o b h1

theorem St.may' (h : St w0 n C el G MB K A L k mb w) {c : Nat} (hc : c < C) (o : Obj) (v : Value) : St w0 n C el G MB K A L k mb ((w.setCell ⟨MB, c, none⟩ v).alloc o) := by
  obtain ⟨hh, hmr⟩ := h.m
  have hsz : (w.setCell ⟨MB, c, none⟩ v).heap.size = w.heap.size := by simp [World.setCell]
  refine h.turn ((h.below.setCell h.bM v).alloc (by rw [hsz]; exact h.below.size) o) ⟨_, (hmr.set hc v).same (Below.heap_alloc _ o MB (by rw [hsz]; exact hmr.lt))⟩ (fun b h1 h2 _ => ?_)
  rw [Below.heap_alloc _ o b (by rw [hsz]; exact h1), Below.heap_setCell _ _ _ _ h2]

theorem St.drew (h : St w0 n C el G MB K A L k mb w) : St w0 n C el G MB K A L k mb w.drew := ⟨h.g, h.m, h.kr, h.ar, h.l, h.ka, h.bG, h.bM, h.bK, h.bA, h.bL, h.maps, h.apart, h.bm, h.below.drew⟩

/-- A cell of a row of bools is written. -/
theorem St.mark (h : St w0 n C el G MB K A L k mb w) {r m z : Nat} {g : Nat → Value} (hr : RowIs w r 4 m g) (hb : w0.heap.size ≤ r) (v : Value) : St w0 n C el G MB K A L k mb (w.setCell ⟨r, z, none⟩ v) := by
  obtain ⟨hh, hmr⟩ := h.m
  have hne : ∀ b, b ≠ r → (w.setCell ⟨r, z, none⟩ v).heap[b]? = w.heap[b]? := fun b hb => Below.heap_setCell _ _ _ _ hb
  refine h.turn (h.below.setCell hb v) ⟨hh, hmr.same (hne _ (row_ne hmr hr (by decide)))⟩ (fun b h1 h2 h3 => hne b (fun e => ?_))
  subst e
  obtain ⟨c, hc, _⟩ := hr
  rcases h3 with ⟨c', t, ht, hc'⟩ | ⟨es, cl, hc'⟩
  · rw [hc] at hc'; cases hc'; exact ht rfl
  · rw [hc] at hc'; cases hc'

/-- The k-th member gets its two maps, laid at x (kept) and y (added). -/
theorem St.next (h : St w0 n C el G MB K A L k mb w) (hk : k < n) {x y : Nat} (hxy : x ≠ y) (hx : x = w.heap.size ∨ x = w.heap.size + 1) (hy : y = w.heap.size ∨ y = w.heap.size + 1) :
    St w0 n C el G MB K A L (k + 1) (fun s i => if i = k then (if s then y else x) else mb s i) ((((w.alloc (.map #[] 0)).alloc (.map #[] 0)).setCell ⟨K, k, none⟩ (.map (some x))).setCell ⟨A, k, none⟩ (.map (some y))) := by
  obtain ⟨hh, hmr⟩ := h.m
  have hsz : (w.alloc (.map #[] 0)).heap.size = w.heap.size + 1 := by simp
  have old : ∀ b, b < w.heap.size → ((w.alloc (.map #[] 0)).alloc (.map #[] 0)).heap[b]? = w.heap[b]? := fun b hb => (Below.heap_alloc _ _ b (by rw [hsz]; omega)).trans (Below.heap_alloc w _ b hb)
  have hset : ∀ b, b ≠ K → b ≠ A → ((((w.alloc (.map #[] 0)).alloc (.map #[] 0)).setCell ⟨K, k, none⟩ (.map (some x))).setCell ⟨A, k, none⟩ (.map (some y))).heap[b]? = ((w.alloc (.map #[] 0)).alloc (.map #[] 0)).heap[b]? := fun b h1 h2 => by
    rw [Below.heap_setCell _ _ _ _ h2, Below.heap_setCell _ _ _ _ h1]
  have all : ∀ b, b < w.heap.size → b ≠ K → b ≠ A → ((((w.alloc (.map #[] 0)).alloc (.map #[] 0)).setCell ⟨K, k, none⟩ (.map (some x))).setCell ⟨A, k, none⟩ (.map (some y))).heap[b]? = w.heap[b]? := fun b h0 h1 h2 => (hset b h1 h2).trans (old b h0)
  have hKl := h.kr.lt
  have hAl := h.ar.lt
  have hsz0 := h.below.size
  have mnew : ∀ z, z = w.heap.size ∨ z = w.heap.size + 1 → MapAt ((((w.alloc (.map #[] 0)).alloc (.map #[] 0)).setCell ⟨K, k, none⟩ (.map (some x))).setCell ⟨A, k, none⟩ (.map (some y))) z 0 (fun _ => .slice none 0 0) := by
    intro z hz
    rcases hz with rfl | rfl
    · exact ((MapAt.made w).alloc _).block (hset _ (by omega) (by omega))
    · have := MapAt.made (w.alloc (.map #[] 0))
      rw [hsz] at this
      exact this.block (hset _ (by omega) (by omega))
  refine ⟨(all G h.glt (row_neG h.kr h.g (by decide)) (row_neG h.ar h.g (by decide))).trans h.g, ⟨hh, hmr.same (all MB hmr.lt (row_ne hmr h.kr (by decide)) (row_ne hmr h.ar (by decide)))⟩, ?_, ?_, h.l.same (all L h.l.lt (row_ne h.l h.kr (by decide)) (row_ne h.l h.ar (by decide))), h.ka, h.bG, h.bM, h.bK, h.bA, h.bL, ?_, ?_, ?_, ?_⟩
  · have r1 : RowIs ((w.alloc (.map #[] 0)).alloc (.map #[] 0)) K 66 n (fun i => if i < k then .map (some (mb false i)) else .map none) := h.kr.same (old K hKl)
    have r2 := (r1.set hk (.map (some x)))
    obtain ⟨cur, a1, a2, a3⟩ := r2
    refine ⟨cur, (Below.heap_setCell _ _ _ _ h.ka).trans a1, a2, fun i hi => (a3 i hi).trans ?_⟩
    by_cases e : i = k
    · subst e; simp
    · by_cases e2 : i < k
      · simp [e, e2, show i < k + 1 by omega]
      · simp [e, e2, show ¬ i < k + 1 by omega]
  · have r1 : RowIs (((w.alloc (.map #[] 0)).alloc (.map #[] 0)).setCell ⟨K, k, none⟩ (.map (some x))) A 66 n (fun i => if i < k then .map (some (mb true i)) else .map none) := h.ar.same ((Below.heap_setCell _ _ _ _ (Ne.symm h.ka)).trans (old A hAl))
    have r2 := (r1.set hk (.map (some y)))
    obtain ⟨cur, a1, a2, a3⟩ := r2
    refine ⟨cur, a1, a2, fun i hi => (a3 i hi).trans ?_⟩
    by_cases e : i = k
    · subst e; simp
    · by_cases e2 : i < k
      · simp [e, e2, show i < k + 1 by omega]
      · simp [e, e2, show ¬ i < k + 1 by omega]
  · intro s i hi
    by_cases e : i = k
    · simp only [e, if_true]
      cases s
      · exact mnew x hx
      · exact mnew y hy
    · simp only [e, if_false]
      have hm := h.maps s i (by omega)
      refine hm.block (all _ hm.lt (fun e3 => ?_) (fun e3 => ?_))
      · obtain ⟨c, hc, _⟩ := h.kr
        exact hm.notCells (e3 ▸ hc)
      · obtain ⟨c, hc, _⟩ := h.ar
        exact hm.notCells (e3 ▸ hc)
  · intro s i s' i' hi hi' he
    have lt : ∀ s i, i < k → mb s i < w.heap.size := fun s i hi => (h.maps s i hi).lt
    by_cases e : i = k
    · by_cases e' : i' = k
      · simp only [e, e', if_true] at he
        cases s <;> cases s' <;> simp at he
        · exact ⟨rfl, by omega⟩
        · exact absurd he hxy
        · exact absurd he.symm hxy
        · exact ⟨rfl, by omega⟩
      · simp only [e, e', if_true, if_false] at he
        have := lt s' i' (by omega)
        cases s <;> simp at he <;> omega
    · by_cases e' : i' = k
      · simp only [e, e', if_true, if_false] at he
        have := lt s i (by omega)
        cases s' <;> simp at he <;> omega
      · simp only [e, e', if_false] at he
        exact h.apart s i s' i' (by omega) (by omega) he
  · intro s i hi
    by_cases e : i = k
    · simp only [e, if_true]
      cases s
      · simp; omega
      · simp; omega
    · simp only [e, if_false]; exact h.bm s i (by omega)
  · exact (((h.below.alloc hsz0 _).alloc (by rw [hsz]; omega) _).setCell h.bK _).setCell h.bA _

/-- The same world, as the walk spells it. -/
theorem St.next' (h : St w0 n C el G MB K A L k mb w) (hk : k < n) {x y : Nat} (hxy : x ≠ y) (hx : x = w.heap.size ∨ x = w.heap.size + 1) (hy : y = w.heap.size ∨ y = w.heap.size + 1) :
    St w0 n C el G MB K A L (k + 1) (fun s i => if i = k then (if s then y else x) else mb s i) ((((w.setCell ⟨K, k, none⟩ (.map (some x))).setCell ⟨A, k, none⟩ (.map (some y))).alloc (.map #[] 0)).alloc (.map #[] 0)) := by
  have h1 := h.next hk hxy hx hy
  have e1 : ∀ (u : World) (o : Obj) (b o' : Nat) (v : Value), b < u.heap.size → (u.alloc o).setCell ⟨b, o', none⟩ v = (u.setCell ⟨b, o', none⟩ v).alloc o := fun u o b o' v hb => World.setCell_alloc_past o b o' v hb
  have hK := h.kr.lt
  have hA := h.ar.lt
  have hsz : ∀ (u : World) (a : Addr) (v : Value), (u.setCell a v).heap.size = u.heap.size := fun u a v => by simp [World.setCell]
  rw [e1 _ _ K k _ (by simp; omega), e1 _ _ K k _ hK, e1 _ _ A k _ (by simp [hsz]; omega), e1 _ _ A k _ (by rw [hsz]; exact hA)] at h1
  exact h1

/-- All members have their maps: a giving of nothing. -/
theorem St.giv (h : St w0 n C el G MB K A L n mb w) : Giv ⟨G, fun s => if s then A else K, L, n, el, .slice (some ⟨MB, 0, none⟩) C C, mb⟩ w0.heap.size w 0 (fun _ _ _ => .slice none 0 0) (fun _ _ _ => []) (fun _ => 0) := by
  refine ⟨h.g, fun s => ?_, h.l, h.maps, fun s i c _ _ => World.ownsInts_nil _ _ _ _, fun _ _ _ _ _ => Nat.le_refl _, fun s i c s' i' c' r _ _ _ _ h1 _ => (by cases h1), h.apart, h.bG, fun s => ?_, h.bL, h.bm, fun i _ => ⟨Int.le_refl _, Int.le_refl _⟩⟩
  · cases s
    · obtain ⟨cur, a1, a2, a3⟩ := h.kr
      exact ⟨cur, a1, a2, fun i hi => by have := a3 i hi; simpa [show i < n from hi] using this⟩
    · obtain ⟨cur, a1, a2, a3⟩ := h.ar
      exact ⟨cur, a1, a2, fun i hi => by have := a3 i hi; simpa [show i < n from hi] using this⟩
  · cases s
    · exact h.bK
    · exact h.bA

end Go.Proofs.Qxb6000857aMods.NewW
