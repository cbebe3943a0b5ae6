/-
  THE WALK of newGiving (function 45).
-/
import Derived.Test.Qxb6000857aModsNewParts
import Derived.WalkSpells
import Derived.StillTactics
import Derived.Laws.Pointers
import Derived.RegionTactic
import Derived.BigRegion
import Derived.Deep.DeepCutAuto
import Derived.Deep.LoopGhost
namespace Go.Proofs.Qxb6000857aMods.NewW
open Go.RowKit MapM AddW GivW
set_option linter.unusedVariables false

theorem info25 : (Trym.prog.info? 25).map (fun i => (i.zero, i.size, i.bytes)) = some (some (.slice none 0 0), 1, 24) := by kernel_rfl
theorem info66 : (Trym.prog.info? 66).map (fun i => (i.zero, i.size, i.bytes)) = some (some (.map none), 1, 8) := by kernel_rfl
theorem info3 : (Trym.prog.info? 3).map (fun i => (i.zero, i.size, i.bytes)) = some (some (.int .i64 0), 1, 8) := by kernel_rfl
theorem info4 : (Trym.prog.info? 4).map (fun i => (i.zero, i.size, i.bytes)) = some (some (.bool false), 1, 1) := by kernel_rfl

/-- make([]T, n). -/
theorem make_any (t e : TypeId) (z : Value) (bytes : Nat) (n : Nat) (hu : Trym.prog.underlying t = some (.slice e)) (hi : (Trym.prog.info? e).map (fun i => (i.zero, i.size, i.bytes)) = some (some z, 1, bytes)) (hz : z.cells = #[z]) (hb : bytes * n ≤ 281474976710656) (hn : n ≤ 1000000000) (Z : Array Value) (hZ : Z = madeCells #[z] n) (w : World) :
    (Instr.makeSlice t (.int .i64 (n : Int)) (.int .i64 (n : Int))).run Trym.prog w = .ok (.slice (some ⟨w.heap.size, 0, none⟩) n n) (w.alloc (.cells Z e)) := by
  obtain ⟨i0, hinf, hz0, hz1, hz2⟩ := info_parts hi
  have hb' : (i0.bytes : Int) * (n : Int) ≤ 281474976710656 := by rw [hz2, ← Int.natCast_mul]; omega
  have h := run_make (P := Trym.prog) w t e i0 z hu hinf hz0 .i64 .i64 (n : Int) (n : Int) (by omega) (by omega) hb' (by omega)
  simp only [hz1, Int.toNat_natCast, Nat.mul_one, hz] at h
  rw [h, hZ]

theorem made_row {w : World} {b n : Nat} {t : TypeId} {z : Value} (h : w.heap[b]? = some (.cells (madeCells #[z] n) t (0, 0))) (hz : z.cells = #[z]) : RowIs w b t n (fun _ => z) := by
  refine ⟨_, h, by simp [madeCells], fun i hi => ?_⟩
  simp [madeCells, hi, Nat.mod_one]

theorem h5 (w : World) (o0 o1 o2 o3 o4 : Obj) : (((((w.alloc o0).alloc o1).alloc o2).alloc o3).alloc o4).drew.heap[w.heap.size]? = some o0 ∧ (((((w.alloc o0).alloc o1).alloc o2).alloc o3).alloc o4).drew.heap[w.heap.size + 1]? = some o1 ∧
    (((((w.alloc o0).alloc o1).alloc o2).alloc o3).alloc o4).drew.heap[w.heap.size + 1 + 1]? = some o2 ∧ (((((w.alloc o0).alloc o1).alloc o2).alloc o3).alloc o4).drew.heap[w.heap.size + 1 + 1 + 1]? = some o3 ∧
    (((((w.alloc o0).alloc o1).alloc o2).alloc o3).alloc o4).drew.heap[w.heap.size + 1 + 1 + 1 + 1]? = some o4 := by
  have s1 : (w.alloc o0).heap.size = w.heap.size + 1 := by simp
  have s2 : ((w.alloc o0).alloc o1).heap.size = w.heap.size + 1 + 1 := by simp
  have s3 : (((w.alloc o0).alloc o1).alloc o2).heap.size = w.heap.size + 1 + 1 + 1 := by simp
  have s4 : ((((w.alloc o0).alloc o1).alloc o2).alloc o3).heap.size = w.heap.size + 1 + 1 + 1 + 1 := by simp
  have a0 := (MapKept.heap_alloc w o0).1
  have a1 := (MapKept.heap_alloc (w.alloc o0) o1).1
  have a2 := (MapKept.heap_alloc ((w.alloc o0).alloc o1) o2).1
  have a3 := (MapKept.heap_alloc (((w.alloc o0).alloc o1).alloc o2) o3).1
  have a4 := (MapKept.heap_alloc ((((w.alloc o0).alloc o1).alloc o2).alloc o3) o4).1
  rw [s1] at a1; rw [s2] at a2; rw [s3] at a3; rw [s4] at a4
  refine ⟨?_, ?_, ?_, ?_, a4⟩
  · exact (Below.heap_alloc _ o4 _ (by omega)).trans ((Below.heap_alloc _ o3 _ (by omega)).trans ((Below.heap_alloc _ o2 _ (by omega)).trans ((Below.heap_alloc _ o1 _ (by omega)).trans a0)))
  · exact (Below.heap_alloc _ o4 _ (by omega)).trans ((Below.heap_alloc _ o3 _ (by omega)).trans ((Below.heap_alloc _ o2 _ (by omega)).trans a1))
  · exact (Below.heap_alloc _ o4 _ (by omega)).trans ((Below.heap_alloc _ o3 _ (by omega)).trans a2)
  · exact (Below.heap_alloc _ o4 _ (by omega)).trans a3

theorem b5 (w : World) (o0 o1 o2 o3 o4 : Obj) : Below w.heap.size w (((((w.alloc o0).alloc o1).alloc o2).alloc o3).alloc o4).drew :=
  ((((((Below.refl _ _).alloc (Nat.le_refl _) o0).alloc (by simp) o1).alloc (by simp; omega) o2).alloc (by simp; omega) o3).alloc (by simp; omega) o4).drew

theorem St.start {w0 wc : World} {n C G MB K A L : Nat} {el : Value} {Z60 Z61 Z23 : Array Value} (h60 : Z60 = madeCells #[Value.slice none 0 0] C) (h61 : Z61 = madeCells #[Value.map none] n) (h23 : Z23 = madeCells #[Value.int .i64 0] n)
    (hb : Below w0.heap.size w0 wc)
    (hg : wc.heap[G]? = some (.cells #[el, .slice (some ⟨MB, 0, none⟩) C C, .slice (some ⟨K, 0, none⟩) n n, .slice (some ⟨A, 0, none⟩) n n, .slice (some ⟨L, 0, none⟩) n n] 63 (0, 0)))
    (hm : wc.heap[MB]? = some (.cells Z60 25 (0, 0))) (hk : wc.heap[K]? = some (.cells Z61 66 (0, 0))) (ha : wc.heap[A]? = some (.cells Z61 66 (0, 0))) (hl : wc.heap[L]? = some (.cells Z23 3 (0, 0)))
    (ka : K ≠ A) (bs : w0.heap.size ≤ G ∧ w0.heap.size ≤ MB ∧ w0.heap.size ≤ K ∧ w0.heap.size ≤ A ∧ w0.heap.size ≤ L) : St w0 n C el G MB K A L 0 (fun _ _ => 0) wc := by
  subst h60 h61 h23
  refine ⟨hg, ⟨_, made_row hm rfl⟩, ?_, ?_, made_row hl rfl, ka, bs.1, bs.2.1, bs.2.2.1, bs.2.2.2.1, bs.2.2.2.2, fun _ _ h => absurd h (by omega), fun _ _ _ _ h => absurd h (by omega), fun _ _ h => absurd h (by omega), hb⟩
  · obtain ⟨c, a1, a2, a3⟩ := made_row hk rfl
    exact ⟨c, a1, a2, fun i hi => by simpa using a3 i hi⟩
  · obtain ⟨c, a1, a2, a3⟩ := made_row ha rfl
    exact ⟨c, a1, a2, fun i hi => by simpa using a3 i hi⟩

theorem may_cell {wr : World} {MB C c : Nat} {mh : Nat → Value} (h : RowIs wr MB 25 C mh) (hc : c < C) (v : Value) (o : Obj) : ((wr.setCell ⟨MB, c, none⟩ v).alloc o).drew.cell? ⟨MB, c, none⟩ = some v := by
  have hsz : (wr.setCell ⟨MB, c, none⟩ v).heap.size = wr.heap.size := by simp [World.setCell]
  have h2 := (h.set hc v).same (Below.heap_alloc _ o MB (by rw [hsz]; exact h.lt))
  have := h2.cell hc
  simpa using this

theorem mark_cell {wr : World} {MB C c H0 n z : Nat} {g : Nat → Value} {u v : Value} (h : ∃ mh, RowIs wr MB 25 C mh) (h' : RowIs wr H0 4 n g) (hc : wr.cell? ⟨MB, c, none⟩ = some u) : (wr.setCell ⟨H0, z, none⟩ v).cell? ⟨MB, c, none⟩ = some u := by
  obtain ⟨mh, h⟩ := h
  exact (World.cell?_of_block (a := ⟨MB, c, none⟩) (Below.heap_setCell _ _ _ _ (row_ne h h' (by decide)))).trans hc

theorem may_row {wr : World} {a : Addr} {v : Value} {Z : Array Value} {n : Nat} (hZ : Z = madeCells #[Value.bool false] n) : RowIs ((wr.setCell a v).alloc (.cells Z 4)).drew wr.heap.size 4 n (fun _ => .bool false) := by
  subst hZ
  have hsz : (wr.setCell a v).heap.size = wr.heap.size := by simp [World.setCell]
  have := (MapKept.heap_alloc (wr.setCell a v) (.cells (madeCells #[Value.bool false] n) 4)).1
  rw [hsz] at this
  exact made_row (w := ((wr.setCell a v).alloc (.cells (madeCells #[Value.bool false] n) 4)).drew) this rfl

set_option maxRecDepth 100000 in
set_option maxHeartbeats 6400000 in
theorem new_raw (n C cap : Nat) (ea : Option Addr) (w : World) (hn : n ≤ 65536) (hC : C ≤ 4096) (HE : Hid (Elig w ea C n)) :
    Calls Trym.prog 45 #[.int .i64 n, .slice ea C cap] w fun e w' => ∃ G MB K A L mb, e = .returned (.pointer (some ⟨G, 0, none⟩)) ∧ St w n C (.slice ea C cap) G MB K A L n mb w' := by
  obtain ⟨Z60, hZ60⟩ : ∃ Z, Z = madeCells #[Value.slice none 0 0] C := ⟨_, rfl⟩
  obtain ⟨Z61, hZ61⟩ : ∃ Z, Z = madeCells #[Value.map none] n := ⟨_, rfl⟩
  obtain ⟨Z23, hZ23⟩ : ∃ Z, Z = madeCells #[Value.int .i64 0] n := ⟨_, rfl⟩
  have m60 := make_any 60 25 (.slice none 0 0) 24 C Trym.underlying60 info25 rfl (by omega) (by omega) Z60 hZ60
  have m61 := make_any 61 66 (.map none) 8 n Trym.underlying61 info66 rfl (by omega) (by omega) Z61 hZ61
  have m23 := make_any 23 3 (.int .i64 0) 8 n Trym.underlying23 info3 rfl (by omega) (by omega) Z23 hZ23
  have H60 := hide hZ60
  have H61 := hide hZ61
  have H23 := hide hZ23
  clear hZ60 hZ61 hZ23
  go_enter Trym.func45, Trym.ntmps45
  go_wp2_with fail
  go_cut [5] (fun p wc => ∃ G MB K A L : Nat, p = .pointer (some ⟨G, 0, none⟩) ∧ Hid (St w n C (.slice ea C cap) G MB K A L 0 (fun _ _ => 0) wc))
  case first =>
    go_region
    all_goals
      go_wp2_with fail
      go_meet
      case rel => exact ⟨_, _, _, _, _, rfl, St.start H60.out H61.out H23.out (b5 _ _ _ _ _ _) (h5 _ _ _ _ _ _).2.2.2.2
        (by first | exact (h5 _ _ _ _ _ _).1 | exact (h5 _ _ _ _ _ _).2.1 | exact (h5 _ _ _ _ _ _).2.2.1 | exact (h5 _ _ _ _ _ _).2.2.2.1)
        (by first | exact (h5 _ _ _ _ _ _).1 | exact (h5 _ _ _ _ _ _).2.1 | exact (h5 _ _ _ _ _ _).2.2.1 | exact (h5 _ _ _ _ _ _).2.2.2.1)
        (by first | exact (h5 _ _ _ _ _ _).1 | exact (h5 _ _ _ _ _ _).2.1 | exact (h5 _ _ _ _ _ _).2.2.1 | exact (h5 _ _ _ _ _ _).2.2.2.1)
        (by first | exact (h5 _ _ _ _ _ _).1 | exact (h5 _ _ _ _ _ _).2.1 | exact (h5 _ _ _ _ _ _).2.2.1 | exact (h5 _ _ _ _ _ _).2.2.2.1)
        (by omega) (by omega)⟩
  case rest =>
    obtain ⟨G, MB, K, A, L, rfl, HS⟩ := hcut
    clear H60 H61 H23 m60 m61 m23
    obtain ⟨Z4, hZ4⟩ : ∃ Z, Z = madeCells #[Value.bool false] n := ⟨_, rfl⟩
    have m25 := make_any 25 4 (.bool false) 1 n Trym.underlying25 info4 rfl (by omega) (by omega) Z4 hZ4
    have H4 := hide hZ4
    clear hZ4
    go_wp2_with fail
    go_loopw [25] (fun x wr => ∃ c : Nat, c ≤ C ∧ x = .int .i64 (c : Int) ∧ Hid (St w n C (.slice ea C cap) G MB K A L 0 (fun _ _ => 0) wr)) (fun x _ => (C - intOf x).toNat)
    case atStart => exact ⟨0, by omega, rfl, HS⟩
    case round =>
      clear HS
      obtain ⟨c, hc, rfl, HS⟩ := hrel
      by_cases hlt : c < C
      · obtain ⟨eb, ra, rl, rc, rfl, e0, e2, e3⟩ := HE.out c hlt
        have e1 : wr.cell? ⟨eb, c, none⟩ = some (.slice ra rl rc) := (HS.out.below.cell (cell_lt e0)).trans e0
        have HE3 := hide e3
        clear e3 e0
        obtain ⟨mh, hmr⟩ := HS.out.m
        have g1 : wr.cell? ⟨G, 1, none⟩ = some (.slice (some ⟨MB, 0, none⟩) C C) := by rw [HS.out.gcell]; rfl
        have g2 : wr.cell? ⟨MB, c, none⟩ = some (mh c) := hmr.cell hlt
        have g3 : wr.frozen? ⟨MB, c, none⟩ = false := hmr.frozen c
        have lM := hmr.lt
        have lG := HS.out.glt
        have hcC : (c : Int) < (C : Int) := by omega
        go_wp2_with fail
        obtain ⟨H0, hH0⟩ : ∃ H0, H0 = wr.heap.size := ⟨_, rfl⟩
        have HH0 := hide hH0
        have hH0w : w.heap.size ≤ H0 := by rw [hH0]; exact HS.out.below.size
        clear hH0
        go_region
        go_wp2_with fail
        go_loopw [40] (fun x wq => ∃ k : Nat, k ≤ rl ∧ x = .int .i64 (k : Int) ∧ Hid (St w n C (.slice (some ⟨eb, 0, none⟩) C cap) G MB K A L 0 (fun _ _ => 0) wq) ∧ Hid (wq.cell? ⟨MB, c, none⟩ = some (.slice (some ⟨H0, 0, none⟩) n n)) ∧ Hid (∃ h, RowIs wq H0 4 n h)) (fun x _ => (rl - intOf x).toNat)
        case atStart => exact ⟨0, by omega, rfl, (HS.out.may' hlt _ _).drew, (by show _ = _; rw [HH0.out]; exact may_cell hmr hlt _ _), (by show ∃ h, _; rw [HH0.out]; exact ⟨_, may_row H4.out⟩)⟩
        case round =>
          obtain ⟨k, hk, rfl, HS2, HC2, HR2⟩ := hrel
          by_cases hlt2 : k < rl
          · obtain ⟨r, rfl, e4⟩ := HE3.out (by omega)
            obtain ⟨z, e5, e6⟩ := e4 k hlt2
            have e7 : wr.cell? ⟨r, k, none⟩ = some (.int .i64 (z : Int)) := (HS2.out.below.cell (cell_lt e5)).trans e5
            have f1 : wr.cell? ⟨G, 1, none⟩ = some (.slice (some ⟨MB, 0, none⟩) C C) := by rw [HS2.out.gcell]; rfl
            have f2 := HC2.out
            obtain ⟨rh, hrr⟩ := HR2.out
            have f3 : wr.cell? ⟨H0, z, none⟩ = some (rh z) := hrr.cell e6
            have f4 : wr.frozen? ⟨H0, z, none⟩ = false := hrr.frozen z
            have hzn : (z : Int) < (n : Int) := by omega
            have HRR := hide hrr
            clear hrr e4
            go_wp2_with fail
            go_roundw
            case rel => exact ⟨k + 1, by omega, by go_num, HS2.out.mark HRR.out hH0w _, mark_cell HS2.out.m HRR.out f2, ⟨_, HRR.out.set e6 _⟩⟩
            case measure => simp [intOf]; omega
          · go_wp2_with fail
            go_roundw
            case rel => exact ⟨c + 1, by omega, by go_num, HS2⟩
            case measure => simp [intOf]; omega
      · go_wp2_with fail
        go_loopw [56] (fun x wr => ∃ k : Nat, ∃ mb : Bool → Nat → Nat, k ≤ n ∧ x = .int .i64 (k : Int) ∧ Hid (St w n C (.slice ea C cap) G MB K A L k mb wr)) (fun x _ => (n - intOf x).toNat)
        case atStart => exact ⟨0, _, by omega, rfl, HS⟩
        case round =>
          clear HS
          obtain ⟨k, mb, hk, rfl, HS⟩ := hrel
          by_cases hlt3 : k < n
          · have f2 : wr.cell? ⟨G, 2, none⟩ = some (.slice (some ⟨K, 0, none⟩) n n) := by rw [HS.out.gcell]; rfl
            have f3 : wr.cell? ⟨G, 3, none⟩ = some (.slice (some ⟨A, 0, none⟩) n n) := by rw [HS.out.gcell]; rfl
            have f4 : wr.cell? ⟨K, k, none⟩ = some (.map none) := by have := HS.out.kr.cell hlt3; simpa using this
            have f5 : wr.cell? ⟨A, k, none⟩ = some (.map none) := by have := HS.out.ar.cell hlt3; simpa using this
            have f6 : wr.frozen? ⟨K, k, none⟩ = false := HS.out.kr.frozen k
            have f7 : wr.frozen? ⟨A, k, none⟩ = false := HS.out.ar.frozen k
            have lG := HS.out.glt
            have lK := HS.out.kr.lt
            have lA := HS.out.ar.lt
            have hKA := HS.out.ka
            have hAK := Ne.symm HS.out.ka
            have hkn : (k : Int) < (n : Int) := by omega
            have hmm := @run_makeMap Trym.prog
            go_wp2_with fail
            go_region
            all_goals
              go_wp2_with fail
              go_roundw
              case rel => exact ⟨k + 1, _, by omega, by go_num, (St.next' HS.out hlt3 (by omega) (by omega) (by omega)).drew⟩
              case measure => simp [intOf]; omega
          · have hkn : k = n := by omega
            subst hkn
            go_wp2
            go_ret
            exact ⟨G, MB, K, A, L, mb, rfl, HS.out⟩

/-- ZZNewGiving: a giving of nothing. -/
theorem zznew_any (n C cap : Nat) (ea : Option Addr) (w : World) (hn : n ≤ 65536) (hC : C ≤ 4096) (hE : Elig w ea C n) :
    Calls Trym.prog 38 #[.int .i64 n, .slice ea C cap] w fun e w' => ∃ S : Sh, e = .returned (.pointer (some ⟨S.G, 0, none⟩)) ∧ S.nm = n ∧ S.el = .slice ea C cap ∧ Giv S w.heap.size w' 0 (fun _ _ _ => .slice none 0 0) (fun _ _ _ => []) (fun _ => 0) ∧ Below w.heap.size w w' := by
  have HE := hide hE
  clear hE
  go_enter Trym.func38, Trym.ntmps38
  go_wp2_with fail
  refine (new_raw n C cap ea _ hn hC HE).mono ?_
  rintro e w' ⟨G, MB, K, A, L, mb, rfl, h⟩
  have H := hide h
  clear h
  go_wp2
  go_ret
  exact ⟨⟨G, fun s => if s then A else K, L, n, .slice ea C cap, .slice (some ⟨MB, 0, none⟩) C C, mb⟩, rfl, rfl, rfl, H.out.giv, H.out.below⟩

end Go.Proofs.Qxb6000857aMods.NewW
