/-
  THE WALK of (*giving).add and ZZKeep (functions 42, 39): raw.
-/
import Derived.Test.Qxb6000857aModsMaps
import Derived.WalkSpells
import Derived.StillTactics
import Derived.Laws.Pointers
import Derived.Deep.RegionHeld3
import Derived.Deep.AppendLies
import Derived.Deep.DrawnRows
import Derived.Maps.OwnRows
namespace Go.Proofs.Qxb6000857aMods.AddW
open Go.RowKit MapM
set_option linter.unusedVariables false
attribute [local go_sem ↓] Go.wp_at_zero Go.wp_at_succ

theorem info21 : (Trym.prog.info? 21).map (fun i => (i.zero, i.size, i.bytes)) = some (some (.int .i32 0), 1, 4) := by kernel_rfl

theorem hide {p : Prop} (h : p) : Hid p := h

theorem grown_start {w w1 : World} {o : Obj} {row : Option Nat} (h : (w.alloc o).drew.grownBy w1 row) : w.grownBy w1 row :=
  (World.grownBy_alloc w o row).trans ⟨h.os, h.tape, h.output, h.size, h.block⟩

theorem ints_snoc {w w1 : World} {B : Nat} {v v' : Value} {zs : List Int} {p : Int} (h : w.ownsInts B 21 .i32 v zs) (h1 : w1.ownsRow B 21 1 v' (zs.length + 1) (zs.map (Value.int .i32) ++ [.int .i32 p])) (hp : W32 p) : w1.ownsInts B 21 .i32 v' (zs ++ [p]) :=
  h.appended h1 hp

set_option maxRecDepth 100000 in
set_option maxHeartbeats 3200000 in
theorem add_raw (G AB LB nm i m cnt B : Nat) (c p q : Int) (f : Int → Value) (ov : Value) (zs : List Int) (w : World)
    (hG3 : w.cell? ⟨G, 3, none⟩ = some (.slice (some ⟨AB, 0, none⟩) nm nm)) (hG4 : w.cell? ⟨G, 4, none⟩ = some (.slice (some ⟨LB, 0, none⟩) nm nm))
    (hA : w.cell? ⟨AB, i, none⟩ = some (.map (some m))) (hL : w.cell? ⟨LB, i, none⟩ = some (.int .i64 q)) (hLf : w.frozen? ⟨LB, i, none⟩ = false)
    (hi : i < nm) (hW : Hid (W32 c)) (hWp : Hid (W32 p)) (HM : Hid (MapAt w m cnt f)) (hov : Hid (f c = ov)) (HO : Hid (w.ownsInts B 21 .i32 ov zs)) (hB : B ≤ w.heap.size)
    (hz : zs.length + 1 ≤ 1000000) (hcnt : cnt ≤ 1000000) (hq0 : 0 ≤ q) (hq1 : q ≤ 1000000)
    (aG : ov.ownBlock ≠ some G) (aA : ov.ownBlock ≠ some AB) (aL : ov.ownBlock ≠ some LB) (aM : ov.ownBlock ≠ some m) (mG : G ≠ m) (mA : AB ≠ m) (mL : LB ≠ m) :
    Calls Trym.prog 42 #[.pointer (some ⟨G, 0, none⟩), .int .i64 i, .int .i32 c, .int .i32 p] w fun e w' => e = .returned (.tuple #[]) ∧ ∃ gg cap w1 w2, w' = w2.setCell ⟨LB, i, none⟩ (.int .i64 (q + 1)) ∧ w.grownBy w1 ov.ownBlock ∧ w1.ownsInts B 21 .i32 (.slice (some ⟨gg, 0, none⟩) (zs.length + 1) cap) (zs ++ [p]) ∧
      (ov.ownBlock = some gg ∨ w.heap.size ≤ gg) ∧ MapAt w2 m (cnt + 1) (fun x => if x = c then .slice (some ⟨gg, 0, none⟩) (zs.length + 1) cap else f x) ∧ w1.grownBy w2 (some m) := by
  obtain ⟨i0, hi0, hz0, hz1, hz2⟩ := info_parts info21
  have lg := World.block_lt_of_cell? w _ hG3
  have lk := World.block_lt_of_cell? w _ hA
  have hi0' : (0 : Int) ≤ (i : Int) := Int.natCast_nonneg _
  have hi1 : (i : Int) < (nm : Int) := by omega
  have hlk : ∀ x, MapAt x m cnt f → (Instr.lookup 66 (.map (some m)) (.int .i32 c) false).run Trym.prog x = .ok ov x := fun x hx => by rw [← hov.out]; exact hx.lookup hW.out
  have HLK := (show Hid (∀ x, MapAt x m cnt f → (Instr.lookup 66 (.map (some m)) (.int .i32 c) false).run Trym.prog x = .ok ov x) from hlk)
  clear hlk
  have ll := World.block_lt_of_cell? w _ hL
  have hG3' : (w.alloc (Obj.cells #[Value.int IntKind.i32 p] 21)).drew.cell? ⟨G, 3, none⟩ = some (.slice (some ⟨AB, 0, none⟩) nm nm) := by go_keep
  have hA' : (w.alloc (Obj.cells #[Value.int IntKind.i32 p] 21)).drew.cell? ⟨AB, i, none⟩ = some (.map (some m)) := by go_keep
  go_enter Trym.func42, Trym.ntmps42
  go_wp2_with fail
  have hlk1 := HLK.out _ HM.out.drew
  have hlk2 := HLK.out _ (HM.out.alloc (.cells #[.int .i32 p] 21)).drew
  go_region_held3 (fun w' => w'.cell? ⟨G, 3, none⟩ = some (.slice (some ⟨AB, 0, none⟩) nm nm) ∧ w'.cell? ⟨AB, i, none⟩ = some (.map (some m)))
    (first
      | (go_split_ands
         exact ⟨by go_keep, by go_keep⟩)
      | (go_split_ands
         refine ⟨?_, ?_⟩
         · (rw [hgrow.cell_far _ (by simp; omega) (Ne.symm aG)]; assumption)
         · (rw [hgrow.cell_far _ (by simp; omega) (Ne.symm aA)]; assumption))
      | (go_split_ands
         refine ⟨?_, ?_⟩
         · (rw [HG2.out.cell_far _ (by have := hgrow.size; simp at this; simp; omega) (by simp; exact mG), hgrow.cell_far _ (by simp; omega) (Ne.symm aG)]; exact hG3')
         · (rw [HG2.out.cell_far _ (by have := hgrow.size; simp at this; simp; omega) (by simp; exact mA), hgrow.cell_far _ (by simp; omega) (Ne.symm aA)]; exact hA')))
    ((refine step_append_lies _ (by rfl) _ _ _ (by rfl) B 21 i0 _ 1 4 Trym.underlying24 hi0 hz0 hz1 hz2 rfl (by omega) ov zs.length (zs.map (Value.int .i32)) (by rfl) ((HO.out.1.alloc _).drew)
        ⟨w.heap.size, 0, none⟩ 1 1 [.int .i32 p] (by rfl) (by rfl) (World.news_of_block (cs := #[.int .i32 p]) (t := 21) (fr := (0, 0)) (heap_alloc_new w _)) (by simp [Value.oneCell'])
        (by omega) (by unfold maxLen; omega) (by omega) (by simp; omega) (w.heap.size + 1) (by simp) ?_; intro gg cap w1 hown1 hgrow hat hlt; obtain ⟨w2, hup, hm2, hg2⟩ := ((HM.out.alloc _).drew.kept hgrow (Ne.symm aM)).update hW.out (.slice (some ⟨gg, 0, none⟩) (zs.length + 1) cap) (by unfold maxLen; omega); have HM2 := hide hm2; have HG2 := hide hg2; clear hm2 hg2))
  all_goals
    have hfar : ∀ a : Addr, a.block < w.heap.size → some a.block ≠ ov.ownBlock → a.block ≠ m → w2.cell? a = w.cell? a ∧ w2.frozen? a = w.frozen? a := fun a h1 h2 h3 => by
      have hg1 := grown_start hgrow
      exact ⟨(HG2.out.cell_far a (Nat.lt_of_lt_of_le h1 hg1.size) (by simpa using h3)).trans (hg1.cell_far a h1 h2), (HG2.out.frozen_far a (Nat.lt_of_lt_of_le h1 hg1.size) (by simpa using h3)).trans (hg1.frozen_far a h1 h2)⟩
    have hL2 : w2.cell? ⟨LB, i, none⟩ = some (.int .i64 q) := (hfar ⟨LB, i, none⟩ ll (Ne.symm aL) mL).1.trans hL
    have hLf2 : w2.frozen? ⟨LB, i, none⟩ = false := (hfar ⟨LB, i, none⟩ ll (Ne.symm aL) mL).2.trans hLf
    have hG42 : w2.cell? ⟨G, 4, none⟩ = some (.slice (some ⟨LB, 0, none⟩) nm nm) := (hfar ⟨G, 4, none⟩ lg (Ne.symm aG) mG).1.trans hG4
    have HGR := hide (grown_start hgrow)
    have HOW := hide hown1
    clear hfar hgrow hown1
    go_wp2
    go_end0
    exact ⟨rfl, gg, cap, w1, w2, rfl, HGR.out, ints_snoc HO.out HOW.out hWp.out, hat.elim .inl (fun h => .inr (by omega)), HM2.out, HG2.out⟩

set_option maxRecDepth 100000 in
set_option maxHeartbeats 3200000 in
theorem keep_raw (G AB LB nm i m cnt B : Nat) (c p q : Int) (f : Int → Value) (ov : Value) (zs : List Int) (w : World)
    (hG3 : w.cell? ⟨G, 2, none⟩ = some (.slice (some ⟨AB, 0, none⟩) nm nm)) (hG4 : w.cell? ⟨G, 4, none⟩ = some (.slice (some ⟨LB, 0, none⟩) nm nm))
    (hA : w.cell? ⟨AB, i, none⟩ = some (.map (some m))) (hL : w.cell? ⟨LB, i, none⟩ = some (.int .i64 q)) (hLf : w.frozen? ⟨LB, i, none⟩ = false)
    (hi : i < nm) (hW : Hid (W32 c)) (hWp : Hid (W32 p)) (HM : Hid (MapAt w m cnt f)) (hov : Hid (f c = ov)) (HO : Hid (w.ownsInts B 21 .i32 ov zs)) (hB : B ≤ w.heap.size)
    (hz : zs.length + 1 ≤ 1000000) (hcnt : cnt ≤ 1000000) (hq0 : 0 ≤ q) (hq1 : q ≤ 1000000)
    (aG : ov.ownBlock ≠ some G) (aA : ov.ownBlock ≠ some AB) (aL : ov.ownBlock ≠ some LB) (aM : ov.ownBlock ≠ some m) (mG : G ≠ m) (mA : AB ≠ m) (mL : LB ≠ m) :
    Calls Trym.prog 39 #[.pointer (some ⟨G, 0, none⟩), .int .i64 i, .int .i32 c, .int .i32 p] w fun e w' => e = .returned (.tuple #[]) ∧ ∃ gg cap w1 w2, w' = w2.setCell ⟨LB, i, none⟩ (.int .i64 (q + 1)) ∧ w.grownBy w1 ov.ownBlock ∧ w1.ownsInts B 21 .i32 (.slice (some ⟨gg, 0, none⟩) (zs.length + 1) cap) (zs ++ [p]) ∧
      (ov.ownBlock = some gg ∨ w.heap.size ≤ gg) ∧ MapAt w2 m (cnt + 1) (fun x => if x = c then .slice (some ⟨gg, 0, none⟩) (zs.length + 1) cap else f x) ∧ w1.grownBy w2 (some m) := by
  obtain ⟨i0, hi0, hz0, hz1, hz2⟩ := info_parts info21
  have lg := World.block_lt_of_cell? w _ hG3
  have lk := World.block_lt_of_cell? w _ hA
  have hi0' : (0 : Int) ≤ (i : Int) := Int.natCast_nonneg _
  have hi1 : (i : Int) < (nm : Int) := by omega
  have hlk : ∀ x, MapAt x m cnt f → (Instr.lookup 66 (.map (some m)) (.int .i32 c) false).run Trym.prog x = .ok ov x := fun x hx => by rw [← hov.out]; exact hx.lookup hW.out
  have HLK := (show Hid (∀ x, MapAt x m cnt f → (Instr.lookup 66 (.map (some m)) (.int .i32 c) false).run Trym.prog x = .ok ov x) from hlk)
  clear hlk
  have ll := World.block_lt_of_cell? w _ hL
  have hG3' : (w.alloc (Obj.cells #[Value.int IntKind.i32 p] 21)).drew.cell? ⟨G, 2, none⟩ = some (.slice (some ⟨AB, 0, none⟩) nm nm) := by go_keep
  have hA' : (w.alloc (Obj.cells #[Value.int IntKind.i32 p] 21)).drew.cell? ⟨AB, i, none⟩ = some (.map (some m)) := by go_keep
  go_enter Trym.func39, Trym.ntmps39
  go_wp2_with fail
  have hlk1 := HLK.out _ HM.out.drew
  have hlk2 := HLK.out _ (HM.out.alloc (.cells #[.int .i32 p] 21)).drew
  go_region_held3 (fun w' => w'.cell? ⟨G, 2, none⟩ = some (.slice (some ⟨AB, 0, none⟩) nm nm) ∧ w'.cell? ⟨AB, i, none⟩ = some (.map (some m)))
    (first
      | (go_split_ands
         exact ⟨by go_keep, by go_keep⟩)
      | (go_split_ands
         refine ⟨?_, ?_⟩
         · (rw [hgrow.cell_far _ (by simp; omega) (Ne.symm aG)]; assumption)
         · (rw [hgrow.cell_far _ (by simp; omega) (Ne.symm aA)]; assumption))
      | (go_split_ands
         refine ⟨?_, ?_⟩
         · (rw [HG2.out.cell_far _ (by have := hgrow.size; simp at this; simp; omega) (by simp; exact mG), hgrow.cell_far _ (by simp; omega) (Ne.symm aG)]; exact hG3')
         · (rw [HG2.out.cell_far _ (by have := hgrow.size; simp at this; simp; omega) (by simp; exact mA), hgrow.cell_far _ (by simp; omega) (Ne.symm aA)]; exact hA')))
    ((refine step_append_lies _ (by rfl) _ _ _ (by rfl) B 21 i0 _ 1 4 Trym.underlying24 hi0 hz0 hz1 hz2 rfl (by omega) ov zs.length (zs.map (Value.int .i32)) (by rfl) ((HO.out.1.alloc _).drew)
        ⟨w.heap.size, 0, none⟩ 1 1 [.int .i32 p] (by rfl) (by rfl) (World.news_of_block (cs := #[.int .i32 p]) (t := 21) (fr := (0, 0)) (heap_alloc_new w _)) (by simp [Value.oneCell'])
        (by omega) (by unfold maxLen; omega) (by omega) (by simp; omega) (w.heap.size + 1) (by simp) ?_; intro gg cap w1 hown1 hgrow hat hlt; obtain ⟨w2, hup, hm2, hg2⟩ := ((HM.out.alloc _).drew.kept hgrow (Ne.symm aM)).update hW.out (.slice (some ⟨gg, 0, none⟩) (zs.length + 1) cap) (by unfold maxLen; omega); have HM2 := hide hm2; have HG2 := hide hg2; clear hm2 hg2))
  all_goals
    have hfar : ∀ a : Addr, a.block < w.heap.size → some a.block ≠ ov.ownBlock → a.block ≠ m → w2.cell? a = w.cell? a ∧ w2.frozen? a = w.frozen? a := fun a h1 h2 h3 => by
      have hg1 := grown_start hgrow
      exact ⟨(HG2.out.cell_far a (Nat.lt_of_lt_of_le h1 hg1.size) (by simpa using h3)).trans (hg1.cell_far a h1 h2), (HG2.out.frozen_far a (Nat.lt_of_lt_of_le h1 hg1.size) (by simpa using h3)).trans (hg1.frozen_far a h1 h2)⟩
    have hL2 : w2.cell? ⟨LB, i, none⟩ = some (.int .i64 q) := (hfar ⟨LB, i, none⟩ ll (Ne.symm aL) mL).1.trans hL
    have hLf2 : w2.frozen? ⟨LB, i, none⟩ = false := (hfar ⟨LB, i, none⟩ ll (Ne.symm aL) mL).2.trans hLf
    have hG42 : w2.cell? ⟨G, 4, none⟩ = some (.slice (some ⟨LB, 0, none⟩) nm nm) := (hfar ⟨G, 4, none⟩ lg (Ne.symm aG) mG).1.trans hG4
    have HGR := hide (grown_start hgrow)
    have HOW := hide hown1
    clear hfar hgrow hown1
    go_wp2
    go_end0
    exact ⟨rfl, gg, cap, w1, w2, rfl, HGR.out, ints_snoc HO.out HOW.out hWp.out, hat.elim .inl (fun h => .inr (by omega)), HM2.out, HG2.out⟩

end Go.Proofs.Qxb6000857aMods.AddW
