/-
  THE WALK of FnGivingAddThenTakeIsUndone (7).
-/
import Derived.Test.Qxb6000857aModsUndo
namespace Go.Proofs.Qxb6000857aMods.UndoW
open Go.RowKit MapM AddW GivW PartsW NewW CopyW GuardW BuildW
set_option linter.unusedVariables false

set_option maxRecDepth 100000 in
set_option maxHeartbeats 6400000 in
theorem walk7 (n : Int) (ea ma ca pa ba : Option Addr) (C N2 N3 N4 N5 ec c2 c3 c4 c5 : Nat) (RA : Nat → Option Addr) (RL RC : Nat → Nat) (Z : Nat → Nat → Int) (M Cl Pt : Nat → Int) (An : Nat → Bool) (x6 x7 x8 : Int) (w : World)
    (hC : C ≤ 9223372036854775807) (h2 : N2 ≤ 9223372036854775807) (h3 : N3 ≤ 9223372036854775807) (h4 : N4 ≤ 9223372036854775807) (h5 : N5 ≤ 9223372036854775807) (hr : ∀ c, c < C → RL c ≤ 9223372036854775807)
    (ne : ea = none → C = 0) (nm : ma = none → N2 = 0) (nc : ca = none → N3 = 0) (np : pa = none → N4 = 0) (nb : ba = none → N5 = 0) (nr : ∀ c, c < C → RA c = none → RL c = 0)
    (se : Sl w ea C (fun c => .slice (RA c) (RL c) (RC c))) (sr : ∀ c, c < C → Sl w (RA c) (RL c) (fun k => .int .i64 (Z c k))) (sm : Sl w ma N2 (fun k => .int .i64 (M k))) (sc : Sl w ca N3 (fun k => .int .i32 (Cl k)))
    (sp : Sl w pa N4 (fun k => .int .i32 (Pt k))) (sb : Sl w ba N5 (fun k => .bool (An k))) (wc : ∀ k, k < N3 → W32 (Cl k)) (wp : ∀ k, k < N4 → W32 (Pt k)) (w7 : W32 x7) (w8 : W32 x8) :
    Calls Trym.prog 7 #[.int .i64 n, .slice ea C ec, .slice ma N2 c2, .slice ca N3 c3, .slice pa N4 c4, .slice ba N5 c5, .int .i64 x6, .int .i32 x7, .int .i32 x8] w fun e w' => e = .returned (.bool true) ∧ Below w.heap.size w w' := by
  have HR := hide hr
  have NE := hide ne
  have NM := hide nm
  have NC := hide nc
  have NP := hide np
  have NB := hide nb
  have NR := hide nr
  have SE := hide se
  have SR := hide sr
  have SM := hide sm
  have SC := hide sc
  have SP := hide sp
  have SB := hide sb
  have WC := hide wc
  have WP := hide wp
  have W7 := hide w7
  have W8 := hide w8
  clear hr ne nm nc np nb nr se sr sm sc sp sb wc wp w7 w8
  go_enter Trym.func7, Trym.ntmps7
  go_wp2_with fail
  refine (bytes7_any n ea ma ca pa ba C N2 N3 N4 N5 ec c2 c3 c4 c5 RA RL RC x6 x7 x8 _ hC h2 h3 h4 h5 SE.out HR.out).mono ?_
  rintro e w1 ⟨b, rfl, rfl, hb⟩
  cases b
  · go_wp2_with fail
    go_ret
    exact ⟨rfl, Below.refl _ _⟩
  have hb := hb rfl
  have HBY := hide hb
  obtain ⟨b1, b2, b3, b4, b5, b6⟩ := hb
  have HR1 := hide b6
  clear b6 hC h2 h3 h4 h5 HR
  go_wp2_with fail
  refine (over_any ea ma ca pa ba C N2 N3 N4 N5 ec c2 c3 c4 c5 RA RL RC _ b1 b2 b3 b4 b5 SE.out HR1.out).mono ?_
  rintro e w1 ⟨b, rfl, rfl, hb⟩
  clear hb
  cases b
  rotate_left
  · go_wp2_with fail
    go_ret
    exact ⟨rfl, Below.refl _ _⟩
  go_wp2_with fail
  refine (shape_any n ea ma ca pa ba C N2 N3 N4 N5 ec c2 c3 c4 c5 RA RL RC Z M _ HBY.out SE.out SR.out SM.out).mono ?_
  rintro e w1 ⟨b, rfl, rfl, hb⟩
  cases b
  · go_wp2_with fail
    go_ret
    exact ⟨rfl, Below.refl _ _⟩
  obtain ⟨q0, q1, q2, q3, q4, q5, q6, q7, q8⟩ := hb rfl
  clear hb
  subst q4 q5 q6
  obtain ⟨m, rfl⟩ := Int.eq_ofNat_of_zero_le q0
  have Q7 := hide q7
  have Q8 := hide q8
  clear q7 q8 b1 b2 b3 b4 b5 q0
  by_cases hover : 0 < C ∧ (16777216 : Int) / (C : Int) < (m : Int)
  · have o1 : (0 : Int) < (C : Int) := by omega
    have o2 := hover.2
    have o3 : (C : Int) ≠ 0 := by omega
    clear hover
    go_wp2_with fail
    go_ret
    exact ⟨rfl, Below.refl _ _⟩
  by_cases h6 : x6 < 0 ∨ (m : Int) ≤ x6
  · by_cases hc0 : (C : Int) ≤ 0
    · rcases h6 with h6 | h6
      · go_wp2_with fail
        go_ret
        exact ⟨rfl, Below.refl _ _⟩
      · by_cases h6' : x6 < 0
        · exfalso; omega
        · have h6'' : 0 ≤ x6 := by omega
          clear h6'
          go_wp2_with fail
          go_ret
          exact ⟨rfl, Below.refl _ _⟩
    · have o1 : (0 : Int) < (C : Int) := by omega
      have o2 : (m : Int) ≤ (16777216 : Int) / (C : Int) := by
        by_cases hh : (16777216 : Int) / (C : Int) < (m : Int)
        · exact absurd ⟨by omega, hh⟩ hover
        · exact Int.not_lt.1 hh
      have o3 : (C : Int) ≠ 0 := by omega
      clear hover hc0
      rcases h6 with h6 | h6
      · go_wp2_with fail
        go_ret
        exact ⟨rfl, Below.refl _ _⟩
      · by_cases h6' : x6 < 0
        · exfalso; omega
        · have h6'' : 0 ≤ x6 := by omega
          clear h6'
          go_wp2_with fail
          go_ret
          exact ⟨rfl, Below.refl _ _⟩
  have h60 : 0 ≤ x6 := by omega
  obtain ⟨i, rfl⟩ := Int.eq_ofNat_of_zero_le h60
  have hi : i < m := by omega
  have hi2 : (i : Int) < (m : Int) := by omega
  clear h6
  by_cases hc0 : (C : Int) ≤ 0
  rotate_left
  · have o1 : (0 : Int) < (C : Int) := by omega
    have o2 : (m : Int) ≤ (16777216 : Int) / (C : Int) := by
      by_cases hh : (16777216 : Int) / (C : Int) < (m : Int)
      · exact absurd ⟨by omega, hh⟩ hover
      · exact Int.not_lt.1 hh
    have o3 : (C : Int) ≠ 0 := by omega
    clear hover hc0
    go_wp2_with fail
    clear o1 o2 o3
    refine (copyEl_any ea C ec RA RL RC Z _ (by omega) NE.out SE.out SR.out HR1.out NR.out).mono ?_
    rintro e w1 ⟨a1, RA1, rfl, he1, hb1⟩
    have HE1 := hide he1
    have HB1 := hide hb1
    clear he1 hb1
    go_wp2_with fail
    refine (copyInts_any ma N5 c2 M _ (by omega) NM.out (SM.out.below HB1.out)).mono ?_
    rintro e w2 ⟨a2, rfl, ho2, hb2, _⟩
    have HO2 := hide ho2
    have HE2 := hide (HE1.out.below hb2)
    have HB2 := hide (nxt HB1.out hb2)
    clear ho2 hb2 HE1 HB1
    go_wp2_with fail
    refine (copyI32_any ca N5 c3 Cl _ (by omega) NC.out (SC.out.below HB2.out)).mono ?_
    rintro e w3 ⟨a3, rfl, ho3, hb3, _⟩
    have HO3 := hide ho3
    have HE3 := hide (HE2.out.below hb3)
    have HO2' := hide (HO2.out.below hb3)
    have HB3 := hide (nxt HB2.out hb3)
    clear ho3 hb3 HE2 HB2 HO2
    go_wp2_with fail
    refine (copyI32_any pa N5 c4 Pt _ (by omega) NP.out (SP.out.below HB3.out)).mono ?_
    rintro e w4 ⟨a4, rfl, ho4, hb4, _⟩
    have HO4 := hide ho4
    have HE4 := hide (HE3.out.below hb4)
    have HO2 := hide (HO2'.out.below hb4)
    have HO3' := hide (HO3.out.below hb4)
    have HB4 := hide (nxt HB3.out hb4)
    clear ho4 hb4 HE3 HB3 HO2' HO3
    go_wp2_with fail
    refine (copyBools_any ba N5 c5 An _ (by omega) NB.out (SB.out.below HB4.out)).mono ?_
    rintro e w5 ⟨a5, rfl, ho5, hb5, _⟩
    have HO5 := hide ho5
    have HE5 := hide (HE4.out.below hb5)
    have HO2' := hide ((HO2.out.below hb5).congr (g' := fun k => .int .i64 ((M k).toNat : Int)) (fun k hk => by rw [Int.toNat_of_nonneg (Q8.out k hk).1]))
    have HO3 := hide (HO3'.out.below hb5)
    have HO4' := hide (HO4.out.below hb5)
    have HB5 := hide (nxt HB4.out hb5)
    clear ho5 hb5 HE4 HB4 HO2 HO3' HO4
    go_wp2_with fail
    refine (build_any m C N5 a1 a2 a3 a4 a5 (fun k => (M k).toNat) Cl Pt An _ (by omega) q2 q3 (el_elig HE5.out (fun c hc => (Q7.out c hc).1) (fun c hc => (Q7.out c hc).2)) HO2'.out HO3.out HO4'.out HO5.out (fun k hk => by have := Q8.out k hk; omega) WC.out WP.out).mono ?_
    rintro e w6 ⟨S, f, rfl, hnm, hel, hg6, hb6⟩
    have HG6 := hide hg6
    have HB6 := hide hb6
    have HNM := hide hnm
    have HEL := hide hel
    clear hg6 hb6 hnm hel HE5 HO2' HO3 HO4' HO5
    generalize hll : lTo (fun k => (M k).toNat) Cl Pt An N5 = l at HG6
    generalize hdd : ldTo (fun k => (M k).toNat) N5 = ld at HG6
    clear hll hdd NE SE SR HR1 NR NM SM NC SC NP SP NB SB WC WP Q7 Q8 HBY hb
    have HU : Hid (∀ b, Uses S f b → b < w6.heap.size) := fun b hb => HG6.out.uses_lt hb
    have HIS : Hid (∀ k, k < m → k < S.nm) := by intro k hk; rw [HNM.out]; exact hk
    go_wp2_with fail
    refine (zzparts_any HG6.out C C a1 HEL.out q2 (by omega) i (HIS.out i hi)).mono ?_
    rintro e w7 ⟨v7, rfl, ho7, hb7⟩
    obtain ⟨a7, cap7, rfl, hn7, _, ho7⟩ := ints_own ho7
    have HO7 := hide ho7
    have HN7 := hide hn7
    have HG7 := hide (HG6.out.below hb7)
    have HB7 := hide hb7
    clear ho7 hn7 hb7 HG6
    have HPL : Hid ((partsTo (l false i) (l true i) C).length ≤ 100000000) := by
      have h := partsTo_len (l false i) (l true i) N5 C (fun c hc => HG7.out.short false i c (HIS.out i hi) (w32 (by omega))) (fun c hc => HG7.out.short true i c (HIS.out i hi) (w32 (by omega)))
      have h2 : 2 * N5 * C ≤ 2 * 4096 * 4096 := Nat.mul_le_mul (by omega) q2
      show _ ≤ _
      omega
    generalize hP : partsTo (l false i) (l true i) C = P at HO7 HN7 HPL
    have HP := hide hP
    clear hP
    go_wp2_with fail
    refine (copyI32_any a7 P.length cap7 (fun k => P.getD k 0) _ HPL.out HN7.out HO7.out.sl).mono ?_
    rintro e w8 ⟨a8, rfl, ho8, hb8, hnew8⟩
    have HO8 := hide ho8
    have HB8 := hide hb8
    have HG8 := hide (HG7.out.below hb8)
    have HA8 : Hid (∀ b, a8 = some b → w6.heap.size ≤ b.block) := fun b e => Nat.le_trans HB7.out.size (hnew8 b e)
    clear ho8 hb8 hnew8 HG7 HO7 HN7
    obtain ⟨ZZ, hZZ⟩ : ∃ Z, Z = madeCells #[Value.int .i64 0] m := ⟨_, rfl⟩
    have hmk := make_any 23 3 (Value.int .i64 0) 8 m Trym.underlying23 info3 rfl (by omega) (by omega) ZZ hZZ w8
    have HR0 : Hid (RowIs (w8.alloc (.cells ZZ 3)) w8.heap.size 3 m (fun k => if k < 0 then Value.int .i64 (ld k) else Value.int .i64 0)) := by
      have := made_row (n := m) (t := 3) (z := Value.int .i64 0) (by rw [← hZZ]; exact (MapKept.heap_alloc w8 (.cells ZZ 3)).1) rfl
      obtain ⟨cur, a1, a2, a3⟩ := this
      exact ⟨cur, a1, a2, fun i hi => by simpa using a3 i hi⟩
    clear hZZ
    go_wp2_with fail
    clear hmk
    go_loopw [22] (fun x wr => ∃ k : Nat, k ≤ m ∧ x = .int .i64 (k : Int) ∧ Hid (RowIs wr w8.heap.size 3 m (fun j => if j < k then Value.int .i64 (ld j) else Value.int .i64 0)) ∧ Hid (Below w8.heap.size w8 wr)) (fun x _ => (m - intOf x).toNat)
    case atStart => exact ⟨0, by omega, rfl, HR0, (Below.refl _ _).alloc (Nat.le_refl _) _⟩
    case round =>
      clear HR0
      obtain ⟨k, hk, rfl, HR, HB⟩ := hrel
      by_cases hlt : k < m
      · have c2 := HR.out.cell hlt
        have c3 := HR.out.frozen k
        simp only [Nat.lt_irrefl, if_false] at c2
        have hkm : (k : Int) < (m : Int) := by omega
        go_wp2_with fail
        refine (load_any (HG8.out.below HB.out) k (HIS.out k hlt)).mono ?_
        rintro e w9 ⟨rfl, rfl⟩
        go_wp2_with fail
        go_roundw
        case rel => exact ⟨k + 1, by omega, by go_num, row_next HR.out hlt rfl, HB.out.setCell (Nat.le_refl _) _⟩
        case measure => simp [intOf]; omega
      · have hkn : k = m := by omega
        subst hkn
        clear hlt hk
        have HG9 := hide (HG8.out.below HB.out)
        have HO9 := hide (HO8.out.below HB.out)
        have HBA : Hid (Below w.heap.size w wr) := nxt (nxt (nxt (nxt HB5.out HB6.out) HB7.out) HB8.out) HB.out
        have HSZ : Hid (w6.heap.size ≤ w8.heap.size ∧ w5.heap.size ≤ w6.heap.size ∧ w.heap.size ≤ w5.heap.size) := ⟨Nat.le_trans HB7.out.size HB8.out.size, HB6.out.size, HB5.out.size⟩
        clear HG8 HO8 HB7 HB8 HB HB6 HB5
        go_wp2_with fail
        refine (zzadd_any HG9.out (by omega) i (HIS.out i hi) x7 x8 W7.out W8.out).mono ?_
        rintro e w10 ⟨rfl, f1, hg10, hb10, hfr10⟩
        have HG10 := hide hg10
        have HB10 := hide hb10
        have HF10 := hide hfr10
        clear hg10 hb10 hfr10
        have HR10 : Hid (RowIs w10 w8.heap.size 3 k (fun j => if j < k then Value.int .i64 (ld j) else Value.int .i64 0)) := HR.out.same (HF10.out.1 _ HR.out.lt (fun h => by have := HU.out _ h; have := HSZ.out.1; omega))
        have hldb := HG9.out.ldb i (HIS.out i hi)
        have d1 : w10.cell? ⟨w8.heap.size, i, none⟩ = some (.int .i64 (ld i)) := by
          have := HR10.out.cell hi
          simpa [hi] using this
        have hu1 : updL ld i (ld i + 1) i = ld i + 1 := by simp [updL]
        have HU1 := hide hu1
        clear hu1
        generalize hq : ld i = q at hldb d1
        have HQ := hide hq
        clear hq
        obtain ⟨hq0, hq1⟩ := hldb
        have hq2 : q ≤ 4096 := by omega
        clear hq1
        go_wp2_with fail
        go_quiet ((go_at_call 29; refine load_qv HG10.out i (HIS.out i hi) _ (q + 1) ?_; rw [HU1.out, HQ.out]))
        go_wp2_with fail
        refine (zztake_any (giv_heap HG10.out (by simp)) (by omega) i (HIS.out i hi) x7 x8 (l true i x7) W7.out (by simp [updF]) (by rw [HU1.out, HQ.out]; omega)).mono ?_
        rintro e w11 ⟨rfl, f2, hg11, hb11, hfr11⟩
        rw [updF_back, updL_back] at hg11
        have HG11 := hide hg11
        have HK : Hid (∀ b, w6.heap.size ≤ b → b < wr.heap.size → w11.heap[b]? = wr.heap[b]?) := fun b h1 h2 => kept2 HU.out HF10.out (fr_drewN hfr11) HB10.out.size h1 h2
        have HBB : Hid (Below w.heap.size w w11) := by
          have h := HSZ.out
          exact HBA.out.trans ((HB10.out.trans ((bel_drewN _ _ _).trans hb11)).mono (by omega))
        clear hg11 hb11 hfr11 HG10 HF10 HB10 HR10 d1 HU1 HQ
        have HR11 : Hid (RowIs w11 w8.heap.size 3 k (fun j => if j < k then Value.int .i64 (ld j) else Value.int .i64 0)) := HR.out.same (HK.out _ HSZ.out.1 HR.out.lt)
        have HO11 : Hid (Own0 w11 a8 P.length (fun k => .int .i32 (P.getD k 0))) := fun h0 => by
          obtain ⟨b, e, hc⟩ := HO9.out h0
          exact ⟨b, e, fun j hj => (World.cell?_of_block (a := ⟨b, j, none⟩) (HK.out b (HA8.out _ e) (cell_lt (hc j hj)))).trans (hc j hj)⟩
        clear HR HO9 HK HG9 HBA HU HA8 hq0 hq2
        go_wp2_with fail
        go_loopw [24] (fun x wz => ∃ j : Nat, j ≤ k ∧ x = .int .i64 (j : Int) ∧ ∃ d, Hid (wz = w11.drewN d)) (fun x _ => (k - intOf x).toNat)
        case atStart => exact ⟨0, by omega, rfl, 0, rfl⟩
        case round =>
          obtain ⟨j, hj, rfl, d, HW⟩ := hrel
          by_cases hlt : j < k
          · have d1 : wr.cell? ⟨w8.heap.size, j, none⟩ = some (.int .i64 (ld j)) := by
              have := HR11.out.cell hlt
              rw [HW.out]
              simpa [hlt] using this
            have HGZ := hide (giv_heap (w' := wr) HG11.out (by rw [HW.out]; rfl))
            have hjk : (j : Int) < (k : Int) := by omega
            go_wp2_with fail
            go_quiet ((go_at_call 29; exact load_q HGZ.out j (HIS.out j hlt) _))
            go_wp2_with fail
            go_roundw
            case rel => exact ⟨j + 1, by omega, by go_num, d + nq, by show _ = _; rw [HW.out, World.drewN_drewN]⟩
            case measure => simp [intOf]; omega
          · have hjk : j = k := by omega
            subst hjk
            have hw := HW.out
            subst hw
            clear hlt hj HR11 HW
            go_wp2_with fail
            refine (zzparts_any (giv_heap (w' := w11.drewN d) HG11.out (by simp)) C C a1 HEL.out q2 (by omega) i (HIS.out i hi)).mono ?_
            rintro e w12 ⟨v12, rfl, ho12, hb12⟩
            rw [HP.out] at ho12
            obtain ⟨a12, cap12, rfl, hn12, _, ho12⟩ := ints_own ho12
            have HO12 := hide ho12
            have HB12 : Hid (Below w.heap.size w w12) := nxt (HBB.out.trans (bel_drewN _ _ d)) hb12
            have HO8 : Hid (Own0 w12 a8 P.length (fun k => .int .i32 (P.getD k 0))) := CopyW.Own0.below (w := w11) HO11.out ((bel_drewN _ _ d).trans hb12)
            have hPL := HPL.out
            clear ho12 hn12 hb12 HG11 HO11 HBB
            go_wp2_with fail
            go_loopw [26] (fun x wz => ∃ j : Nat, j ≤ P.length ∧ x = .int .i64 (j : Int) ∧ ∃ d, wz = w12.drewN d) (fun x _ => (P.length - intOf x).toNat)
            case atStart => exact ⟨0, by omega, rfl, 0, rfl⟩
            case round =>
              obtain ⟨t, ht, rfl, d, rfl⟩ := hrel
              by_cases hlt : t < P.length
              · obtain ⟨b1, rfl, e1⟩ := HO12.out (by omega)
                obtain ⟨b2, rfl, e2⟩ := HO8.out (by omega)
                have f1 := e1 t hlt
                have f2 := e2 t hlt
                have htp : (t : Int) < (P.length : Int) := by omega
                clear e1 e2
                go_wp2_with fail
                go_quiet (fail)
                go_wp2_with fail
                go_roundw
                case rel => exact ⟨t + 1, by omega, by go_num, d + nq, by first | rfl | rw [World.drewN_drewN]⟩
                case measure => simp [intOf]; omega
              · have htp : t = P.length := by omega
                subst htp
                go_wp2_with fail
                go_ret
                exact ⟨rfl, HB12.out.trans (bel_drewN _ _ _)⟩
  · clear hover
    go_wp2_with fail
    clear hc0
    refine (copyEl_any ea C ec RA RL RC Z _ (by omega) NE.out SE.out SR.out HR1.out NR.out).mono ?_
    rintro e w1 ⟨a1, RA1, rfl, he1, hb1⟩
    have HE1 := hide he1
    have HB1 := hide hb1
    clear he1 hb1
    go_wp2_with fail
    refine (copyInts_any ma N5 c2 M _ (by omega) NM.out (SM.out.below HB1.out)).mono ?_
    rintro e w2 ⟨a2, rfl, ho2, hb2, _⟩
    have HO2 := hide ho2
    have HE2 := hide (HE1.out.below hb2)
    have HB2 := hide (nxt HB1.out hb2)
    clear ho2 hb2 HE1 HB1
    go_wp2_with fail
    refine (copyI32_any ca N5 c3 Cl _ (by omega) NC.out (SC.out.below HB2.out)).mono ?_
    rintro e w3 ⟨a3, rfl, ho3, hb3, _⟩
    have HO3 := hide ho3
    have HE3 := hide (HE2.out.below hb3)
    have HO2' := hide (HO2.out.below hb3)
    have HB3 := hide (nxt HB2.out hb3)
    clear ho3 hb3 HE2 HB2 HO2
    go_wp2_with fail
    refine (copyI32_any pa N5 c4 Pt _ (by omega) NP.out (SP.out.below HB3.out)).mono ?_
    rintro e w4 ⟨a4, rfl, ho4, hb4, _⟩
    have HO4 := hide ho4
    have HE4 := hide (HE3.out.below hb4)
    have HO2 := hide (HO2'.out.below hb4)
    have HO3' := hide (HO3.out.below hb4)
    have HB4 := hide (nxt HB3.out hb4)
    clear ho4 hb4 HE3 HB3 HO2' HO3
    go_wp2_with fail
    refine (copyBools_any ba N5 c5 An _ (by omega) NB.out (SB.out.below HB4.out)).mono ?_
    rintro e w5 ⟨a5, rfl, ho5, hb5, _⟩
    have HO5 := hide ho5
    have HE5 := hide (HE4.out.below hb5)
    have HO2' := hide ((HO2.out.below hb5).congr (g' := fun k => .int .i64 ((M k).toNat : Int)) (fun k hk => by rw [Int.toNat_of_nonneg (Q8.out k hk).1]))
    have HO3 := hide (HO3'.out.below hb5)
    have HO4' := hide (HO4.out.below hb5)
    have HB5 := hide (nxt HB4.out hb5)
    clear ho5 hb5 HE4 HB4 HO2 HO3' HO4
    go_wp2_with fail
    refine (build_any m C N5 a1 a2 a3 a4 a5 (fun k => (M k).toNat) Cl Pt An _ (by omega) q2 q3 (el_elig HE5.out (fun c hc => (Q7.out c hc).1) (fun c hc => (Q7.out c hc).2)) HO2'.out HO3.out HO4'.out HO5.out (fun k hk => by have := Q8.out k hk; omega) WC.out WP.out).mono ?_
    rintro e w6 ⟨S, f, rfl, hnm, hel, hg6, hb6⟩
    have HG6 := hide hg6
    have HB6 := hide hb6
    have HNM := hide hnm
    have HEL := hide hel
    clear hg6 hb6 hnm hel HE5 HO2' HO3 HO4' HO5
    generalize hll : lTo (fun k => (M k).toNat) Cl Pt An N5 = l at HG6
    generalize hdd : ldTo (fun k => (M k).toNat) N5 = ld at HG6
    clear hll hdd NE SE SR HR1 NR NM SM NC SC NP SP NB SB WC WP Q7 Q8 HBY hb
    have HU : Hid (∀ b, Uses S f b → b < w6.heap.size) := fun b hb => HG6.out.uses_lt hb
    have HIS : Hid (∀ k, k < m → k < S.nm) := by intro k hk; rw [HNM.out]; exact hk
    go_wp2_with fail
    refine (zzparts_any HG6.out C C a1 HEL.out q2 (by omega) i (HIS.out i hi)).mono ?_
    rintro e w7 ⟨v7, rfl, ho7, hb7⟩
    obtain ⟨a7, cap7, rfl, hn7, _, ho7⟩ := ints_own ho7
    have HO7 := hide ho7
    have HN7 := hide hn7
    have HG7 := hide (HG6.out.below hb7)
    have HB7 := hide hb7
    clear ho7 hn7 hb7 HG6
    have HPL : Hid ((partsTo (l false i) (l true i) C).length ≤ 100000000) := by
      have h := partsTo_len (l false i) (l true i) N5 C (fun c hc => HG7.out.short false i c (HIS.out i hi) (w32 (by omega))) (fun c hc => HG7.out.short true i c (HIS.out i hi) (w32 (by omega)))
      have h2 : 2 * N5 * C ≤ 2 * 4096 * 4096 := Nat.mul_le_mul (by omega) q2
      show _ ≤ _
      omega
    generalize hP : partsTo (l false i) (l true i) C = P at HO7 HN7 HPL
    have HP := hide hP
    clear hP
    go_wp2_with fail
    refine (copyI32_any a7 P.length cap7 (fun k => P.getD k 0) _ HPL.out HN7.out HO7.out.sl).mono ?_
    rintro e w8 ⟨a8, rfl, ho8, hb8, hnew8⟩
    have HO8 := hide ho8
    have HB8 := hide hb8
    have HG8 := hide (HG7.out.below hb8)
    have HA8 : Hid (∀ b, a8 = some b → w6.heap.size ≤ b.block) := fun b e => Nat.le_trans HB7.out.size (hnew8 b e)
    clear ho8 hb8 hnew8 HG7 HO7 HN7
    obtain ⟨ZZ, hZZ⟩ : ∃ Z, Z = madeCells #[Value.int .i64 0] m := ⟨_, rfl⟩
    have hmk := make_any 23 3 (Value.int .i64 0) 8 m Trym.underlying23 info3 rfl (by omega) (by omega) ZZ hZZ w8
    have HR0 : Hid (RowIs (w8.alloc (.cells ZZ 3)) w8.heap.size 3 m (fun k => if k < 0 then Value.int .i64 (ld k) else Value.int .i64 0)) := by
      have := made_row (n := m) (t := 3) (z := Value.int .i64 0) (by rw [← hZZ]; exact (MapKept.heap_alloc w8 (.cells ZZ 3)).1) rfl
      obtain ⟨cur, a1, a2, a3⟩ := this
      exact ⟨cur, a1, a2, fun i hi => by simpa using a3 i hi⟩
    clear hZZ
    go_wp2_with fail
    clear hmk
    go_loopw [22] (fun x wr => ∃ k : Nat, k ≤ m ∧ x = .int .i64 (k : Int) ∧ Hid (RowIs wr w8.heap.size 3 m (fun j => if j < k then Value.int .i64 (ld j) else Value.int .i64 0)) ∧ Hid (Below w8.heap.size w8 wr)) (fun x _ => (m - intOf x).toNat)
    case atStart => exact ⟨0, by omega, rfl, HR0, (Below.refl _ _).alloc (Nat.le_refl _) _⟩
    case round =>
      clear HR0
      obtain ⟨k, hk, rfl, HR, HB⟩ := hrel
      by_cases hlt : k < m
      · have c2 := HR.out.cell hlt
        have c3 := HR.out.frozen k
        simp only [Nat.lt_irrefl, if_false] at c2
        have hkm : (k : Int) < (m : Int) := by omega
        go_wp2_with fail
        refine (load_any (HG8.out.below HB.out) k (HIS.out k hlt)).mono ?_
        rintro e w9 ⟨rfl, rfl⟩
        go_wp2_with fail
        go_roundw
        case rel => exact ⟨k + 1, by omega, by go_num, row_next HR.out hlt rfl, HB.out.setCell (Nat.le_refl _) _⟩
        case measure => simp [intOf]; omega
      · have hkn : k = m := by omega
        subst hkn
        clear hlt hk
        have HG9 := hide (HG8.out.below HB.out)
        have HO9 := hide (HO8.out.below HB.out)
        have HBA : Hid (Below w.heap.size w wr) := nxt (nxt (nxt (nxt HB5.out HB6.out) HB7.out) HB8.out) HB.out
        have HSZ : Hid (w6.heap.size ≤ w8.heap.size ∧ w5.heap.size ≤ w6.heap.size ∧ w.heap.size ≤ w5.heap.size) := ⟨Nat.le_trans HB7.out.size HB8.out.size, HB6.out.size, HB5.out.size⟩
        clear HG8 HO8 HB7 HB8 HB HB6 HB5
        go_wp2_with fail
        refine (zzadd_any HG9.out (by omega) i (HIS.out i hi) x7 x8 W7.out W8.out).mono ?_
        rintro e w10 ⟨rfl, f1, hg10, hb10, hfr10⟩
        have HG10 := hide hg10
        have HB10 := hide hb10
        have HF10 := hide hfr10
        clear hg10 hb10 hfr10
        have HR10 : Hid (RowIs w10 w8.heap.size 3 k (fun j => if j < k then Value.int .i64 (ld j) else Value.int .i64 0)) := HR.out.same (HF10.out.1 _ HR.out.lt (fun h => by have := HU.out _ h; have := HSZ.out.1; omega))
        have hldb := HG9.out.ldb i (HIS.out i hi)
        have d1 : w10.cell? ⟨w8.heap.size, i, none⟩ = some (.int .i64 (ld i)) := by
          have := HR10.out.cell hi
          simpa [hi] using this
        have hu1 : updL ld i (ld i + 1) i = ld i + 1 := by simp [updL]
        have HU1 := hide hu1
        clear hu1
        generalize hq : ld i = q at hldb d1
        have HQ := hide hq
        clear hq
        obtain ⟨hq0, hq1⟩ := hldb
        have hq2 : q ≤ 4096 := by omega
        clear hq1
        go_wp2_with fail
        go_quiet ((go_at_call 29; refine load_qv HG10.out i (HIS.out i hi) _ (q + 1) ?_; rw [HU1.out, HQ.out]))
        go_wp2_with fail
        refine (zztake_any (giv_heap HG10.out (by simp)) (by omega) i (HIS.out i hi) x7 x8 (l true i x7) W7.out (by simp [updF]) (by rw [HU1.out, HQ.out]; omega)).mono ?_
        rintro e w11 ⟨rfl, f2, hg11, hb11, hfr11⟩
        rw [updF_back, updL_back] at hg11
        have HG11 := hide hg11
        have HK : Hid (∀ b, w6.heap.size ≤ b → b < wr.heap.size → w11.heap[b]? = wr.heap[b]?) := fun b h1 h2 => kept2 HU.out HF10.out (fr_drewN hfr11) HB10.out.size h1 h2
        have HBB : Hid (Below w.heap.size w w11) := by
          have h := HSZ.out
          exact HBA.out.trans ((HB10.out.trans ((bel_drewN _ _ _).trans hb11)).mono (by omega))
        clear hg11 hb11 hfr11 HG10 HF10 HB10 HR10 d1 HU1 HQ
        have HR11 : Hid (RowIs w11 w8.heap.size 3 k (fun j => if j < k then Value.int .i64 (ld j) else Value.int .i64 0)) := HR.out.same (HK.out _ HSZ.out.1 HR.out.lt)
        have HO11 : Hid (Own0 w11 a8 P.length (fun k => .int .i32 (P.getD k 0))) := fun h0 => by
          obtain ⟨b, e, hc⟩ := HO9.out h0
          exact ⟨b, e, fun j hj => (World.cell?_of_block (a := ⟨b, j, none⟩) (HK.out b (HA8.out _ e) (cell_lt (hc j hj)))).trans (hc j hj)⟩
        clear HR HO9 HK HG9 HBA HU HA8 hq0 hq2
        go_wp2_with fail
        go_loopw [24] (fun x wz => ∃ j : Nat, j ≤ k ∧ x = .int .i64 (j : Int) ∧ ∃ d, Hid (wz = w11.drewN d)) (fun x _ => (k - intOf x).toNat)
        case atStart => exact ⟨0, by omega, rfl, 0, rfl⟩
        case round =>
          obtain ⟨j, hj, rfl, d, HW⟩ := hrel
          by_cases hlt : j < k
          · have d1 : wr.cell? ⟨w8.heap.size, j, none⟩ = some (.int .i64 (ld j)) := by
              have := HR11.out.cell hlt
              rw [HW.out]
              simpa [hlt] using this
            have HGZ := hide (giv_heap (w' := wr) HG11.out (by rw [HW.out]; rfl))
            have hjk : (j : Int) < (k : Int) := by omega
            go_wp2_with fail
            go_quiet ((go_at_call 29; exact load_q HGZ.out j (HIS.out j hlt) _))
            go_wp2_with fail
            go_roundw
            case rel => exact ⟨j + 1, by omega, by go_num, d + nq, by show _ = _; rw [HW.out, World.drewN_drewN]⟩
            case measure => simp [intOf]; omega
          · have hjk : j = k := by omega
            subst hjk
            have hw := HW.out
            subst hw
            clear hlt hj HR11 HW
            go_wp2_with fail
            refine (zzparts_any (giv_heap (w' := w11.drewN d) HG11.out (by simp)) C C a1 HEL.out q2 (by omega) i (HIS.out i hi)).mono ?_
            rintro e w12 ⟨v12, rfl, ho12, hb12⟩
            rw [HP.out] at ho12
            obtain ⟨a12, cap12, rfl, hn12, _, ho12⟩ := ints_own ho12
            have HO12 := hide ho12
            have HB12 : Hid (Below w.heap.size w w12) := nxt (HBB.out.trans (bel_drewN _ _ d)) hb12
            have HO8 : Hid (Own0 w12 a8 P.length (fun k => .int .i32 (P.getD k 0))) := CopyW.Own0.below (w := w11) HO11.out ((bel_drewN _ _ d).trans hb12)
            have hPL := HPL.out
            clear ho12 hn12 hb12 HG11 HO11 HBB
            go_wp2_with fail
            go_loopw [26] (fun x wz => ∃ j : Nat, j ≤ P.length ∧ x = .int .i64 (j : Int) ∧ ∃ d, wz = w12.drewN d) (fun x _ => (P.length - intOf x).toNat)
            case atStart => exact ⟨0, by omega, rfl, 0, rfl⟩
            case round =>
              obtain ⟨t, ht, rfl, d, rfl⟩ := hrel
              by_cases hlt : t < P.length
              · obtain ⟨b1, rfl, e1⟩ := HO12.out (by omega)
                obtain ⟨b2, rfl, e2⟩ := HO8.out (by omega)
                have f1 := e1 t hlt
                have f2 := e2 t hlt
                have htp : (t : Int) < (P.length : Int) := by omega
                clear e1 e2
                go_wp2_with fail
                go_quiet (fail)
                go_wp2_with fail
                go_roundw
                case rel => exact ⟨t + 1, by omega, by go_num, d + nq, by first | rfl | rw [World.drewN_drewN]⟩
                case measure => simp [intOf]; omega
              · have htp : t = P.length := by omega
                subst htp
                go_wp2_with fail
                go_ret
                exact ⟨rfl, HB12.out.trans (bel_drewN _ _ _)⟩
end Go.Proofs.Qxb6000857aMods.UndoW
