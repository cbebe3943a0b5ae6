/-
  THE WALK of FnGivingPartsRecordsWhatIsGiven (6).
-/
import Derived.Test.Qxb6000857aModsRec
import Derived.Deep.DeepCutAuto
import Derived.Deep.CutRange
namespace Go.Proofs.Qxb6000857aMods.RecW
open Go.RowKit MapM AddW GivW PartsW NewW CopyW GuardW BuildW UndoW SortP
set_option linter.unusedVariables false

set_option maxRecDepth 100000 in
set_option maxHeartbeats 12800000 in
theorem walk6 (n : Int) (ea ma ca pa ba : Option Addr) (C N2 N3 N4 N5 ec c2 c3 c4 c5 : Nat) (RA : Nat → Option Addr) (RL RC : Nat → Nat) (Z : Nat → Nat → Int) (M Cl Pt : Nat → Int) (An : Nat → Bool) (w : World)
    (hC : C ≤ 9223372036854775807) (h2 : N2 ≤ 9223372036854775807) (h3 : N3 ≤ 9223372036854775807) (h4 : N4 ≤ 9223372036854775807) (h5 : N5 ≤ 9223372036854775807) (hr : ∀ c, c < C → RL c ≤ 9223372036854775807)
    (ne : ea = none → C = 0) (nm : ma = none → N2 = 0) (nc : ca = none → N3 = 0) (np : pa = none → N4 = 0) (nb : ba = none → N5 = 0) (nr : ∀ c, c < C → RA c = none → RL c = 0)
    (se : Sl w ea C (fun c => .slice (RA c) (RL c) (RC c))) (sr : ∀ c, c < C → Sl w (RA c) (RL c) (fun k => .int .i64 (Z c k))) (sm : Sl w ma N2 (fun k => .int .i64 (M k))) (sc : Sl w ca N3 (fun k => .int .i32 (Cl k)))
    (sp : Sl w pa N4 (fun k => .int .i32 (Pt k))) (sb : Sl w ba N5 (fun k => .bool (An k))) (wc : ∀ k, k < N3 → W32 (Cl k)) (wp : ∀ k, k < N4 → W32 (Pt k)) :
    Calls Trym.prog 6 #[.int .i64 n, .slice ea C ec, .slice ma N2 c2, .slice ca N3 c3, .slice pa N4 c4, .slice ba N5 c5] w fun e w' => e = .returned (.bool true) ∧ Below w.heap.size w w' := by
  have HR := hide hr
  have NE := hide ne
  have NM := hide nm
  have NC := hide nc
  have NP := hide np
  have NB := hide nb
  have NR := hide nr
  have SE := hide se
  have SR := hide sr
  have SM := hide sm
  have SC := hide sc
  have SP := hide sp
  have SB := hide sb
  have WC := hide wc
  have WP := hide wp
  clear hr ne nm nc np nb nr se sr sm sc sp sb wc wp
  go_enter Trym.func6, Trym.ntmps6
  go_wp2_with fail
  refine (bytes6_any n ea ma ca pa ba C N2 N3 N4 N5 ec c2 c3 c4 c5 RA RL RC _ hC h2 h3 h4 h5 SE.out HR.out).mono ?_
  rintro e w1 ⟨b, rfl, rfl, hb⟩
  cases b
  · go_wp2_with fail
    go_ret
    exact ⟨rfl, Below.refl _ _⟩
  have hb := hb rfl
  have HBY := hide hb
  obtain ⟨b1, b2, b3, b4, b5, b6⟩ := hb
  have HR1 := hide b6
  clear b6 hC h2 h3 h4 h5 HR
  go_wp2_with fail
  refine (over_any ea ma ca pa ba C N2 N3 N4 N5 ec c2 c3 c4 c5 RA RL RC _ b1 b2 b3 b4 b5 SE.out HR1.out).mono ?_
  rintro e w1 ⟨b, rfl, rfl, hb⟩
  clear hb
  cases b
  rotate_left
  · go_wp2_with fail
    go_ret
    exact ⟨rfl, Below.refl _ _⟩
  go_wp2_with fail
  refine (shape_any n ea ma ca pa ba C N2 N3 N4 N5 ec c2 c3 c4 c5 RA RL RC Z M _ HBY.out SE.out SR.out SM.out).mono ?_
  rintro e w1 ⟨b, rfl, rfl, hb⟩
  cases b
  · go_wp2_with fail
    go_ret
    exact ⟨rfl, Below.refl _ _⟩
  obtain ⟨q0, q1, q2, q3, q4, q5, q6, q7, q8⟩ := hb rfl
  clear hb
  subst q4 q5 q6
  obtain ⟨m, rfl⟩ := Int.eq_ofNat_of_zero_le q0
  have Q7 := hide q7
  have Q8 := hide q8
  clear q7 q8 b1 b2 b3 b4 b5 q0
  by_cases hover : 0 < C ∧ (16777216 : Int) / (C : Int) < (m : Int)
  · have o1 : (0 : Int) < (C : Int) := by omega
    have o2 := hover.2
    have o3 : (C : Int) ≠ 0 := by omega
    clear hover
    go_wp2_with fail
    go_ret
    exact ⟨rfl, Below.refl _ _⟩
  go_upto_region 7 with fail
  go_cut [63] (fun v wc => v = .bool false ∧ wc = w)
  case first =>
    as_aux_lemma =>
      by_cases hc0 : (C : Int) ≤ 0
      · clear hover
        go_wp2_with fail
        go_meet
        case rel => exact ⟨rfl, rfl⟩
      · have o1 : (0 : Int) < (C : Int) := by omega
        have o2 : (m : Int) ≤ (16777216 : Int) / (C : Int) := by
          by_cases hh : (16777216 : Int) / (C : Int) < (m : Int)
          · exact absurd ⟨by omega, hh⟩ hover
          · exact Int.not_lt.1 hh
        have o3 : (C : Int) ≠ 0 := by omega
        clear hover hc0
        go_wp2_with fail
        go_meet
        case rel => exact ⟨by rw [decide_eq_false (Int.not_lt.2 o2)], rfl⟩
  case rest =>
    obtain ⟨rfl, rfl⟩ := hcut
    clear hover
    go_wp2_with fail
    refine (copyEl_any ea C ec RA RL RC Z _ (by omega) NE.out SE.out SR.out HR1.out NR.out).mono ?_
    rintro e w1 ⟨a1, RA1, rfl, he1, hb1⟩
    have HE1 := hide he1
    have HB1 := hide hb1
    clear he1 hb1
    go_wp2_with fail
    refine (copyInts_any ma N5 c2 M _ (by omega) NM.out (SM.out.below HB1.out)).mono ?_
    rintro e w2 ⟨a2, rfl, ho2, hb2, _⟩
    have HO2 := hide ho2
    have HE2 := hide (HE1.out.below hb2)
    have HB2 := hide (nxt HB1.out hb2)
    clear ho2 hb2 HE1 HB1
    go_wp2_with fail
    refine (copyI32_any ca N5 c3 Cl _ (by omega) NC.out (SC.out.below HB2.out)).mono ?_
    rintro e w3 ⟨a3, rfl, ho3, hb3, _⟩
    have HO3 := hide ho3
    have HE3 := hide (HE2.out.below hb3)
    have HO2' := hide (HO2.out.below hb3)
    have HB3 := hide (nxt HB2.out hb3)
    clear ho3 hb3 HE2 HB2 HO2
    go_wp2_with fail
    refine (copyI32_any pa N5 c4 Pt _ (by omega) NP.out (SP.out.below HB3.out)).mono ?_
    rintro e w4 ⟨a4, rfl, ho4, hb4, _⟩
    have HO4 := hide ho4
    have HE4 := hide (HE3.out.below hb4)
    have HO2 := hide (HO2'.out.below hb4)
    have HO3' := hide (HO3.out.below hb4)
    have HB4 := hide (nxt HB3.out hb4)
    clear ho4 hb4 HE3 HB3 HO2' HO3
    go_wp2_with fail
    refine (copyBools_any ba N5 c5 An _ (by omega) NB.out (SB.out.below HB4.out)).mono ?_
    rintro e w5 ⟨a5, rfl, ho5, hb5, _⟩
    have HO5 := hide ho5
    have HE5 := hide (HE4.out.below hb5)
    have HO2' := hide ((HO2.out.below hb5).congr (g' := fun k => .int .i64 ((M k).toNat : Int)) (fun k hk => by rw [Int.toNat_of_nonneg (Q8.out k hk).1]))
    have HO3 := hide (HO3'.out.below hb5)
    have HO4' := hide (HO4.out.below hb5)
    have HB5 := hide (nxt HB4.out hb5)
    clear ho5 hb5 HE4 HB4 HO2 HO3' HO4
    go_wp2_with fail
    refine (build_any m C N5 a1 a2 a3 a4 a5 (fun k => (M k).toNat) Cl Pt An _ (by omega) q2 q3 (el_elig HE5.out (fun c hc => (Q7.out c hc).1) (fun c hc => (Q7.out c hc).2)) HO2'.out HO3.out HO4'.out HO5.out (fun k hk => by have := Q8.out k hk; omega) WC.out WP.out).mono ?_
    rintro e w6 ⟨S, f, rfl, hnm, hel, hg6, hb6⟩
    have HG6 := hide hg6
    have HB6 := hide hb6
    have HNM := hide hnm
    have HEL := hide hel
    have HO26 := hide (HO2'.out.below HB6.out)
    have HO36 := hide (HO3.out.below HB6.out)
    have HO46 := hide (HO4'.out.below HB6.out)
    have HO56 := hide (HO5.out.below HB6.out)
    clear hg6 hb6 hnm hel HE5 HO2' HO3 HO4' HO5
    clear NE SE SR HR1 NR NM SM NC SC NP SP NB SB WP Q7 HBY hb
    have HQM : Hid (∀ k, k < N5 → (M k).toNat < m) := fun k hk => by have := Q8.out k hk; omega
    clear Q8
    generalize hMn : (fun k => (M k).toNat) = Mn at HG6
    have HM2 : Hid (∀ k, k < N5 → Mn k < m) := by subst hMn; exact HQM.out
    have HO2 : Hid (Own0 w6 a2 N5 (fun k => .int .i64 ((Mn k : Nat) : Int))) := by subst hMn; exact HO26.out
    clear hMn HO26 HQM
    have HIS : Hid (∀ k, k < m → k < S.nm) := by intro k hk; rw [HNM.out]; exact hk
    obtain ⟨ZS, hZS⟩ : ∃ Z, Z = madeCells #[Value.int .i64 0] (m + 1) := ⟨_, rfl⟩
    have hmk : (Instr.makeSlice 23 (.int .i64 ((m : Int) + 1)) (.int .i64 ((m : Int) + 1))).run Trym.prog w6 = .ok (.slice (some ⟨w6.heap.size, 0, none⟩) (m + 1) (m + 1)) (w6.alloc (.cells ZS 3)) := make_any 23 3 (Value.int .i64 0) 8 (m + 1) Trym.underlying23 info3 rfl (by omega) (by omega) ZS hZS w6
    have HR0 : Hid (RowIs (w6.alloc (.cells ZS 3)) w6.heap.size 3 (m + 1) (natRow (cA Mn Cl C 0))) := by
      have := made_row (n := m + 1) (t := 3) (z := Value.int .i64 0) (by rw [← hZS]; exact (MapKept.heap_alloc w6 (.cells ZS 3)).1) rfl
      obtain ⟨cur, a1, a2, a3⟩ := this
      exact ⟨cur, a1, a2, fun i hi => by rw [a3 i hi]; unfold natRow; rw [cA_zero]; rfl⟩
    clear hZS
    go_wp2_with fail
    clear hmk
    go_loopw [16] (fun x wr => ∃ k : Nat, k ≤ N5 ∧ x = .int .i64 (k : Int) ∧ Hid (RowIs wr w6.heap.size 3 (m + 1) (natRow (cA Mn Cl C k))) ∧ Hid (Below w6.heap.size w6 wr)) (fun x _ => (N5 - intOf x).toNat)
    case atStart => exact ⟨0, by omega, rfl, HR0, (Below.refl _ _).alloc (Nat.le_refl _) _⟩
    case round =>
      clear HR0
      obtain ⟨k, hk, rfl, HR, HB⟩ := hrel
      by_cases hlt : k < N5
      · obtain ⟨b2, rfl, e2⟩ := HO2.out (by omega)
        obtain ⟨b3, rfl, e3⟩ := HO36.out (by omega)
        have d2 := (HB.out.cell (cell_lt (e2 k hlt))).trans (e2 k hlt)
        have d3 := (HB.out.cell (cell_lt (e3 k hlt))).trans (e3 k hlt)
        have hkN : (k : Int) < (N5 : Int) := by omega
        obtain ⟨hl1, hl2⟩ := w32_bounds (WC.out k hlt)
        have HMK := hide (HM2.out k hlt)
        have hmk2 : (Mn k : Int) < (m : Int) := by have := HMK.out; omega
        clear e2 e3
        as_aux_lemma =>
          cases hok : okE Cl C k
          · have HOK := hide hok
            have HN : Hid (Cl k < 0 ∨ (C : Int) ≤ Cl k) := by
              have := HOK.out
              simp only [okE, decide_eq_false_iff_not] at this
              show _ ∨ _
              omega
            clear hok
            have fin : ∀ wz : World, wz = wr → ∃ k' : Nat, k' ≤ N5 ∧ Value.int .i64 ((k : Int) + 1) = .int .i64 (k' : Int) ∧ Hid (RowIs wz w6.heap.size 3 (m + 1) (natRow (cA Mn Cl C k'))) ∧ Hid (Below w6.heap.size w6 wz) := by
              rintro _ rfl
              exact ⟨k + 1, by omega, rfl, row_congr HR.out (fun j _ => cA_no HOK.out j), HB.out⟩
            have FIN := hide fin
            clear fin
            rcases HN.out with hneg | hbig
            · go_wp2_with fail
              go_roundw
              case rel => exact FIN.out _ rfl
              case measure => simp [intOf]; omega
            · by_cases hneg : Cl k < 0
              · exfalso; omega
              · have hge : 0 ≤ Cl k := by omega
                clear hneg
                go_wp2_with fail
                go_roundw
                case rel => exact FIN.out _ rfl
                case measure => simp [intOf]; omega
          · have HOK := hide hok
            have h12 : 0 ≤ Cl k ∧ Cl k < (C : Int) := by simpa [okE] using hok
            obtain ⟨hge, hltC⟩ := h12
            clear hok
            have e1 := HR.out.cell (i := Mn k + 1) (by have := HMK.out; omega)
            have e0 := HR.out.frozen (Mn k + 1)
            have hq := cA_le Mn Cl C k (Mn k + 1)
            unfold natRow at e1
            generalize hqq : cA Mn Cl C k (Mn k + 1) = q at e1 hq
            have HQ := hide hqq
            clear hqq
            have htn : ((Mn k : Int) + 1).toNat = Mn k + 1 := by omega
            go_wp2_with fail
            go_roundw
            case rel => exact ⟨k + 1, by omega, by go_num, row_nat HR.out (by have := HMK.out; omega) (x := q + 1) rfl (fun j => by rw [← HQ.out]; exact cA_yes HOK.out j), HB.out.setCell (Nat.le_refl _) _⟩
            case measure => simp [intOf]; omega
      · have hkn : N5 = k := by omega
        subst hkn
        clear hlt hk
        have HS1 : Hid (RowIs wr w6.heap.size 3 (m + 1) (natRow (pA Mn Cl C N5 1))) := row_congr HR.out (fun j _ => pA_start _ _ _ _ _)
        have HBs := HB
        clear HR HB
        go_wp2_with fail
        go_loopw [17] (fun x wr => ∃ i : Nat, 1 ≤ i ∧ i ≤ m + 1 ∧ x = .int .i64 (i : Int) ∧ Hid (RowIs wr w6.heap.size 3 (m + 1) (natRow (pA Mn Cl C N5 i))) ∧ Hid (Below w6.heap.size w6 wr)) (fun x _ => (m + 1 - intOf x).toNat)
        case atStart => exact ⟨1, by omega, by omega, rfl, HS1, HBs⟩
        case round =>
          clear HS1 HBs
          obtain ⟨i, hi1, hi2, rfl, HR, HB⟩ := hrel
          by_cases hlt : i ≤ m
          · have e1 := HR.out.cell (i := i) (by omega)
            have e0 := HR.out.frozen i
            have e2 := HR.out.cell (i := i - 1) (by omega)
            have p1 := pA_le Mn Cl C N5 i i
            have p2 := pA_le Mn Cl C N5 i (i - 1)
            unfold natRow at e1 e2
            generalize hqq : pA Mn Cl C N5 i i = q at e1 p1
            generalize hrr : pA Mn Cl C N5 i (i - 1) = r at e2 p2
            have HQ := hide hqq
            have HRR := hide hrr
            clear hqq hrr
            have htn : ((i : Int) - 1).toNat = i - 1 := by omega
            have hne : i - 1 ≠ i := by omega
            have him : (i : Int) ≤ (m : Int) := by omega
            have hii : (1 : Int) ≤ (i : Int) := by omega
            as_aux_lemma =>
              go_wp2_with fail
              go_region
              all_goals
                go_wp2_with fail
                go_roundw
                case rel => exact ⟨i + 1, by omega, by omega, by go_num, row_drew (row_nat HR.out (by omega) (x := q + r) rfl (fun j => by rw [← HQ.out, ← HRR.out]; exact pA_step _ _ _ _ _ hi1 j)), (HB.out.setCell (Nat.le_refl _) _).drew⟩
                case measure => simp [intOf]; omega
          · have hkn : i = m + 1 := by omega
            have hcond : (m : Int) < (i : Int) := by omega
            have HR := hide (hkn ▸ HR.out)
            clear hkn
            obtain ⟨T, hT⟩ : ∃ T, T = Fp Mn Cl C N5 m := ⟨_, rfl⟩
            have hTN : T ≤ N5 := by rw [hT]; exact sum_cnt _ _ _ _ _
            have HT := hide hT
            have HS2 : Hid (RowIs wr w6.heap.size 3 (m + 1) (natRow (Fp Mn Cl C N5))) := row_congr HR.out (fun j hj => pA_end _ _ _ _ _ _ hj)
            have e1 : wr.cell? ⟨w6.heap.size, m, none⟩ = some (.int .i64 (T : Int)) := by have := HS2.out.cell (i := m) (by omega); rw [hT]; exact this
            clear hT HR
            obtain ⟨ZO, hZO⟩ : ∃ Z, Z = madeCells #[Value.int .i64 0] T := ⟨_, rfl⟩
            obtain ⟨ZP, hZP⟩ : ∃ Z, Z = madeCells #[Value.int .i64 0] m := ⟨_, rfl⟩
            obtain ⟨Ho, hHo⟩ : ∃ h, h = wr.heap.size := ⟨_, rfl⟩
            obtain ⟨Hp, hHp⟩ : ∃ h, h = (wr.alloc (.cells ZO 3)).heap.size := ⟨_, rfl⟩
            have hmk1 : (Instr.makeSlice 23 (.int .i64 (T : Int)) (.int .i64 (T : Int))).run Trym.prog wr = .ok (.slice (some ⟨Ho, 0, none⟩) T T) (wr.alloc (.cells ZO 3)) := by rw [hHo]; exact make_any 23 3 (Value.int .i64 0) 8 T Trym.underlying23 info3 rfl (by omega) (by omega) ZO hZO wr
            have hmk2 : (Instr.makeSlice 23 (.int .i64 (m : Int)) (.int .i64 (m : Int))).run Trym.prog (wr.alloc (.cells ZO 3)) = .ok (.slice (some ⟨Hp, 0, none⟩) m m) ((wr.alloc (.cells ZO 3)).alloc (.cells ZP 3)) := by rw [hHp]; exact make_any 23 3 (Value.int .i64 0) 8 m Trym.underlying23 info3 rfl (by omega) (by omega) ZP hZP _
            have HT0 : Hid (Tb w6 Ho Hp m T (Fp Mn Cl C N5) (fun _ => 0) (fun j => if j < 0 then Fp Mn Cl C N5 j else 0) ((wr.alloc (.cells ZO 3)).alloc (.cells ZP 3))) := by
              show Tb _ _ _ _ _ _ _ _ _
              subst hHo hHp
              exact tb_start HB.out HS2.out hZO hZP
            clear hZO hZP hHo hHp HB HS2 hi1 hi2 hlt
            go_wp2_with fail
            clear e1 hmk1 hmk2
            go_loopw [20] (fun x wz => ∃ i : Nat, i ≤ m ∧ x = .int .i64 (i : Int) ∧ Hid (Tb w6 Ho Hp m T (Fp Mn Cl C N5) (fun _ => 0) (fun j => if j < i then Fp Mn Cl C N5 j else 0) wz)) (fun x _ => (m - intOf x).toNat)
            case atStart => exact ⟨0, by omega, rfl, HT0⟩
            case round =>
              clear HT0
              obtain ⟨i, hi, rfl, HT1⟩ := hrel
              by_cases hlt : i < m
              · as_aux_lemma =>
                  have e1 := HT1.out.st.cell (i := i) (by omega)
                  have e0 := HT1.out.po.frozen i
                  have e4 := HT1.out.po.cell hlt
                  have him : (i : Int) < (m : Int) := by omega
                  have him1 : (i : Int) < (m : Int) + 1 := by omega
                  unfold natRow at e1
                  go_wp2_with fail
                  go_roundw
                  case rel => exact ⟨i + 1, by omega, by go_num, HT1.out.setP hlt rfl (fun j => pos_step _ i j)⟩
                  case measure => simp [intOf]; omega
              · have hin : m = i := by omega
                subst hin
                clear hlt hi
                have HT2 : Hid (Tb w6 Ho Hp m T (Fp Mn Cl C N5) (fun _ => 0) (psA Mn Cl C N5 0) wr) := HT1.out.congrP (fun j hj => by rw [if_pos hj]; rfl)
                clear HT1
                have HF0 : Hid (Filled Mn Cl C N5 m 0 (fun _ => 0)) := fun i _ t ht => absurd ht (by simp [cnt, Ev])
                have HV0 : Hid (∀ j, j < T → (fun _ => 0 : Nat → Nat) j < N5) := fun j hj => by show 0 < N5; omega
                go_wp2_with fail
                go_loopw [21] (fun x wz => ∃ k : Nat, ∃ o : Nat → Nat, k ≤ N5 ∧ x = .int .i64 (k : Int) ∧ Hid (Tb w6 Ho Hp m T (Fp Mn Cl C N5) o (psA Mn Cl C N5 k) wz) ∧ Hid (Filled Mn Cl C N5 m k o) ∧ Hid (∀ j, j < T → o j < N5)) (fun x _ => (N5 - intOf x).toNat)
                case atStart => exact ⟨0, _, by omega, rfl, HT2, HF0, HV0⟩
                case round =>
                  clear HT2 HF0 HV0
                  obtain ⟨k, o, hk, rfl, HTB, HF, HV⟩ := hrel
                  by_cases hlt : k < N5
                  · obtain ⟨b2, rfl, e2⟩ := HO2.out (by omega)
                    obtain ⟨b3, rfl, e3⟩ := HO36.out (by omega)
                    have d2 := (HTB.out.bel.cell (cell_lt (e2 k hlt))).trans (e2 k hlt)
                    have d3 := (HTB.out.bel.cell (cell_lt (e3 k hlt))).trans (e3 k hlt)
                    have hkN : (k : Int) < (N5 : Int) := by omega
                    obtain ⟨hl1, hl2⟩ := w32_bounds (WC.out k hlt)
                    have HMK := hide (HM2.out k hlt)
                    have hmk2 : (Mn k : Int) < (m : Int) := by have := HMK.out; omega
                    have l2 := cell_lt (e2 k hlt)
                    have l3 := cell_lt (e3 k hlt)
                    clear e2 e3
                    cases hok : okE Cl C k
                    · as_aux_lemma =>
                        have HOK := hide hok
                        have HN : Hid (Cl k < 0 ∨ (C : Int) ≤ Cl k) := by
                          have := HOK.out
                          simp only [okE, decide_eq_false_iff_not] at this
                          show _ ∨ _
                          omega
                        clear hok
                        have fin : ∃ k' : Nat, ∃ o : Nat → Nat, k' ≤ N5 ∧ Value.int .i64 ((k : Int) + 1) = .int .i64 (k' : Int) ∧ Hid (Tb w6 Ho Hp m T (Fp Mn Cl C N5) o (psA Mn Cl C N5 k') wr) ∧ Hid (Filled Mn Cl C N5 m k' o) ∧ Hid (∀ j, j < T → o j < N5) :=
                          ⟨k + 1, o, by omega, rfl, HTB.out.congrP (fun j _ => ps_no HOK.out j), fill_no HF.out HOK.out, HV⟩
                        have FIN := hide fin
                        clear fin
                        rcases HN.out with hneg | hbig
                        · go_wp2_with fail
                          go_roundw
                          case rel => exact FIN.out
                          case measure => simp [intOf]; omega
                        · by_cases hneg : Cl k < 0
                          · exfalso; omega
                          · have hge : 0 ≤ Cl k := by omega
                            clear hneg
                            go_wp2_with fail
                            go_roundw
                            case rel => exact FIN.out
                            case measure => simp [intOf]; omega
                    · as_aux_lemma =>
                        have HOK := hide hok
                        have h12 : 0 ≤ Cl k ∧ Cl k < (C : Int) := by simpa [okE] using hok
                        obtain ⟨hge, hltC⟩ := h12
                        clear hok
                        have hqT : psA Mn Cl C N5 k (Mn k) < T := by rw [HT.out]; exact fill_lt hlt HMK.out HOK.out
                        have e1 := HTB.out.po.cell (i := Mn k) HMK.out
                        unfold natRow at e1
                        have HTC := hide (HTB.out.setO (x := k) (v := .int .i64 (k : Int)) hqT rfl (fun _ => rfl))
                        have f1 := HTC.out.po.cell (i := Mn k) HMK.out
                        unfold natRow at f1
                        have f0 := HTC.out.po.frozen (Mn k)
                        have HFN := hide (fill_yes HF.out hlt HMK.out HOK.out)
                        have HPS : Hid (∀ j, upd (psA Mn Cl C N5 k) (Mn k) (psA Mn Cl C N5 k (Mn k) + 1) j = psA Mn Cl C N5 (k + 1) j) := fun j => ps_yes HOK.out j
                        generalize hqq : psA Mn Cl C N5 k (Mn k) = q at hqT e1 f1 f0 HTC HFN HPS
                        clear hqq
                        have e0 := HTB.out.or.frozen q
                        have e3 := HTB.out.or.cell hqT
                        unfold natRow at e3
                        have g0 := HTB.out.po.frozen (Mn k)
                        have hne1 : Ho ≠ Hp := by have := HTB.out.op; omega
                        have hne2 : Hp ≠ Ho := fun h => hne1 h.symm
                        have hqT2 : (q : Int) < (T : Int) := by omega
                        go_wp2_with fail
                        go_roundw
                        case rel => exact ⟨k + 1, _, by omega, by go_num, HTC.out.setP HMK.out (x := q + 1) rfl HPS.out, HFN, fun j hj => upd_lt HV.out hlt j hj⟩
                        case measure => simp [intOf]; omega
                  · have hkn : N5 = k := by omega
                    subst hkn
                    clear hlt hk
                    have HRS0 : Hid (RestZ Mn Cl C N5 m 0 o) := fun i' _ h2 t ht => HF.out i' h2 t ht
                    clear HF
                    go_wp2_with fail
                    go_loopw [23] (fun x wz => ∃ i : Nat, ∃ o ps : Nat → Nat, i ≤ m ∧ x = .int .i64 (i : Int) ∧ Hid (Tb w6 Ho Hp m T (Fp Mn Cl C N5) o ps wz) ∧ Hid (RestZ Mn Cl C N5 m i o) ∧ Hid (∀ j, j < T → o j < N5)) (fun x _ => (m - intOf x).toNat)
                    case atStart => exact ⟨0, o, _, by omega, rfl, HTB, HRS0, HV⟩
                    case round =>
                      clear HTB HRS0 HV
                      obtain ⟨i, o, ps, hi, rfl, HTB, HRS, HV⟩ := hrel
                      by_cases hlt : i < m
                      · have e1 := HTB.out.st.cell (i := i) (by omega)
                        have e2 := HTB.out.st.cell (i := i + 1) (by omega)
                        unfold natRow at e1 e2
                        have hFp : Fp Mn Cl C N5 (i + 1) = Fp Mn Cl C N5 i + cnt Mn Cl C i N5 := rfl
                        have HTM : Hid (Fp Mn Cl C N5 (i + 1) ≤ T) := by have := HT.out; show _ ≤ _; rw [this]; exact Fp_mono _ _ _ _ _ _ (by omega)
                        have HH1 : Hid (Half (keyZ Cl An) (Ev Mn Cl C i N5) (2 * C) (Fp Mn Cl C N5 i) 1 o) := half_start (fun t ht => HRS.out i (Nat.le_refl _) hlt t ht) key_ok
                        have HR1 : Hid (RestZ Mn Cl C N5 m (i + 1) o) := fun i' h1 h2 t ht => HRS.out i' (by omega) h2 t ht
                        have HLO : Hid (∀ j, Fp Mn Cl C N5 (i + 1) ≤ j → Fp Mn Cl C N5 (i + 1) ≤ j) := fun _ h => h
                        generalize hlo : Fp Mn Cl C N5 i = lo at e1 hFp HH1
                        generalize hhi : Fp Mn Cl C N5 (i + 1) = hi' at e2 hFp HTM HLO
                        generalize hcc : cnt Mn Cl C i N5 = c at hFp
                        have HHI := hide hhi
                        have HCC := hide hcc
                        have HFP := hide hFp
                        clear hlo hhi hcc hFp HLO
                        have hb1 : hi' ≤ 4096 := by have := HTM.out; omega
                        have hb2 : lo ≤ 4096 := by have := HFP.out; omega
                        have htn : ((i : Int) + 1).toNat = i + 1 := by omega
                        have him : (i : Int) < (m : Int) := by omega
                        have him1 : (i : Int) < (m : Int) + 1 := by omega
                        clear HRS
                        go_wp2_with fail
                        clear e1 e2
                        go_loopw [26] (fun x wz => ∃ a : Nat, ∃ o : Nat → Nat, lo + 1 ≤ a ∧ x = .int .i64 (a : Int) ∧ Hid (Tb w6 Ho Hp m T (Fp Mn Cl C N5) o ps wz) ∧ Hid (Half (keyZ Cl An) (Ev Mn Cl C i N5) (2 * C) lo (a - lo) o) ∧ Hid (RestZ Mn Cl C N5 m (i + 1) o) ∧ Hid (∀ j, j < T → o j < N5)) (fun x _ => (hi' - intOf x).toNat)
                        case atStart => exact ⟨lo + 1, o, by omega, by go_num, HTB, (show Half _ _ _ _ _ _ by rw [show lo + 1 - lo = 1 by omega]; exact HH1.out), HR1, HV⟩
                        case round =>
                          clear HTB HH1 HR1 HV
                          obtain ⟨a, o, hla, rfl, HTB, HH, HR1, HV⟩ := hrel
                          by_cases hah : a < hi'
                          · have haT : a < T := by have := HTM.out; omega
                            have e1 := HTB.out.or.cell haT
                            unfold natRow at e1
                            have hxN := HV.out a haT
                            obtain ⟨b3, rfl, c3⟩ := HO36.out (by omega)
                            obtain ⟨b5, rfl, c5⟩ := HO56.out (by omega)
                            have d3 := (HTB.out.bel.cell (cell_lt (c3 (o a) hxN))).trans (c3 (o a) hxN)
                            have d5 := (HTB.out.bel.cell (cell_lt (c5 (o a) hxN))).trans (c5 (o a) hxN)
                            have HC3 := hide c3
                            have HC5 := hide c5
                            clear c3 c5
                            have hxN2 : (o a : Int) < (N5 : Int) := by omega
                            have hah2 : (a : Int) < (hi' : Int) := by omega
                            have haT2 : (a : Int) < (T : Int) := by omega
                            have HWX := hide (WC.out (o a) hxN)
                            go_wp2_with fail
                            go_quiet ((go_at_call 26; exact key_q Cl An (o a) HWX.out _ _))
                            go_wp2_with fail
                            have HT5 : Hid (Tb w6 Ho Hp m T (Fp Mn Cl C N5) (shifted o a a) ps (wr.drewN nq)) := (HTB.out.draws nq).congr (fun j => (shifted_self o a j).symm)
                            clear e1 d3 d5
                            have hkb := w32_bounds HWX.out
                            go_loopw [29] (fun y wz => ∃ b : Nat, lo ≤ b ∧ b ≤ a ∧ y = .int .i64 (b : Int) ∧ Hid (Tb w6 Ho Hp m T (Fp Mn Cl C N5) (shifted o b a) ps wz) ∧ Hid (∀ j, b ≤ j → j < a → keyZ Cl An (o a) < keyZ Cl An (o j))) (fun y _ => (intOf y).toNat)
                            case atStart => exact ⟨a, by omega, by omega, rfl, HT5, fun j h1 h2 => absurd h2 (by omega)⟩
                            case round =>
                              clear HT5 HTB
                              obtain ⟨b, hb1', hb2', rfl, HTB, HGT⟩ := hrel
                              have hbT : b < T := by omega
                              have hbT2 : (b : Int) < (T : Int) := by omega
                              have e0 := HTB.out.or.frozen b
                              have e1 := HTB.out.or.cell hbT
                              unfold natRow at e1
                              have FIN : Hid (∀ (wz : World), Tb w6 Ho Hp m T (Fp Mn Cl C N5) (shifted o b a) ps wz → (b = lo ∨ keyZ Cl An (o (b - 1)) ≤ keyZ Cl An (o a)) → ∃ a' : Nat, ∃ o' : Nat → Nat, lo + 1 ≤ a' ∧ Value.int .i64 ((a : Int) + 1) = .int .i64 (a' : Int) ∧ Hid (Tb w6 Ho Hp m T (Fp Mn Cl C N5) o' ps (wz.setCell ⟨Ho, b, none⟩ (.int .i64 (o a : Int)))) ∧ Hid (Half (keyZ Cl An) (Ev Mn Cl C i N5) (2 * C) lo (a' - lo) o') ∧ Hid (RestZ Mn Cl C N5 m (i + 1) o') ∧ Hid (∀ j, j < T → o' j < N5)) := fun wz htb hle =>
                                ⟨a + 1, upd (shifted o b a) b (o a), by omega, rfl, htb.setO hbT rfl (fun _ => rfl), ins_fin HH.out hla (by have h1 := HFP.out; have h2 := HCC.out; unfold cnt at h2; omega) key_ok hb1' hb2' HGT.out hle,
                                  rest_keep HR1.out (fun j hj => shifted_far hb2' (by rw [HHI.out] at hj; omega)), shifted_lt HV.out hxN⟩
                              by_cases hblo : lo < b
                              · have e2 := HTB.out.or.cell (i := b - 1) (by omega)
                                unfold natRow at e2
                                rw [shifted_low (by omega)] at e2
                                have hyN := HV.out (b - 1) (by omega)
                                have d3 := (HTB.out.bel.cell (cell_lt (HC3.out _ hyN))).trans (HC3.out _ hyN)
                                have d5 := (HTB.out.bel.cell (cell_lt (HC5.out _ hyN))).trans (HC5.out _ hyN)
                                have HWY := hide (WC.out _ hyN)
                                have hyN2 : (o (b - 1) : Int) < (N5 : Int) := by omega
                                have hblo2 : (lo : Int) < (b : Int) := by omega
                                have htn2 : ((b : Int) - 1).toNat = b - 1 := by omega
                                have hb12 : (b : Int) - 1 < (T : Int) := by omega
                                have hb0 : (1 : Int) ≤ (b : Int) := by omega
                                as_aux_lemma =>
                                  by_cases hgt : keyZ Cl An (o a) < keyZ Cl An (o (b - 1))
                                  · go_wp2_with fail
                                    go_quiet ((go_at_call 26; exact key_q Cl An (o (b - 1)) HWY.out _ _))
                                    go_wp2_with fail
                                    go_roundw
                                    case rel => exact ⟨b - 1, by omega, by omega, by go_num, (HTB.out.draws nq).setO hbT rfl (fun j => by rw [← shifted_step o b a (by omega) hb2' j, shifted_low (show b - 1 ≤ b by omega)]), fun j h1 h2 => by
                                      by_cases hj : j = b - 1
                                      · rw [hj]; exact hgt
                                      · exact HGT.out j (by omega) h2⟩
                                    case measure => simp [intOf]; omega
                                  · have hngt : keyZ Cl An (o (b - 1)) ≤ keyZ Cl An (o a) := by omega
                                    clear hgt
                                    go_wp2_with fail
                                    go_quiet ((go_at_call 26; exact key_q Cl An (o (b - 1)) HWY.out _ _))
                                    go_wp2_with fail
                                    go_roundw
                                    case rel => exact FIN.out _ (HTB.out.draws nq) (.inr hngt)
                                    case measure => simp [intOf]; omega
                              · have hbl : b = lo := by omega
                                have HBL := hide hbl
                                have hd : decide ((lo : Int) < (b : Int)) = false := decide_eq_false (by omega)
                                have hd2 : decide (lo < b) = false := decide_eq_false (by omega)
                                clear hbl hblo
                                go_wp2_with fail
                                go_quiet (fail)
                                go_wp2_with fail
                                go_roundw
                                case rel => exact FIN.out _ (HTB.out.draws nq) (.inl HBL.out)
                                case measure => simp [intOf]; omega
                          · have hah2 : (hi' : Int) ≤ (a : Int) := by omega
                            have HGW := hide (HG6.out.below HTB.out.bel)
                            go_wp2_with fail
                            refine (zzparts_any HGW.out C C a1 HEL.out q2 (by omega) i (HIS.out i hlt)).mono ?_
                            rintro e w9 ⟨v9, rfl, ho9, hb9⟩
                            obtain ⟨a9, cap9, rfl, hn9, _, ho9⟩ := ints_own ho9
                            obtain ⟨hPl, hPt⟩ := sorted_parts (Pt := Pt) HH.out (by have h1 := HFP.out; have h2 := HCC.out; omega) key_ok
                            generalize hP : partsTo (lTo Mn Cl Pt An N5 false i) (lTo Mn Cl Pt An N5 true i) C = P at ho9 hPl hPt
                            have HO9 := hide ho9
                            have HPT := hide hPt
                            have HPL : Hid (lo + P.length = hi') := by have h1 := HFP.out; have h2 := HCC.out; show _ = _; omega
                            have HTB9 := hide (HTB.out.grow hb9)
                            have hPlc : (P.length : Int) = (hi' : Int) - (lo : Int) := by have := HPL.out; omega
                            have hloh : lo ≤ hi' := by have := HPL.out; omega
                            clear ho9 hn9 hb9 hPl hPt hP HGW HTB HH hah2 hah hla
                            go_wp2_with fail
                            clear hPlc
                            go_loopw [31] (fun x wz => ∃ j : Nat, lo ≤ j ∧ j ≤ hi' ∧ x = .int .i64 (j : Int) ∧ ∃ d, Hid (wz = w9.drewN d)) (fun x _ => (hi' - intOf x).toNat)
                            case atStart => exact ⟨lo, by omega, by omega, rfl, 0, rfl⟩
                            case round =>
                              obtain ⟨j, hj1, hj2, rfl, d, HW⟩ := hrel
                              by_cases hjh : j < hi'
                              · have hjT : j < T := by have := HTM.out; omega
                                have hjT2 : (j : Int) < (T : Int) := by omega
                                have e1 : wr.cell? ⟨Ho, j, none⟩ = some (.int .i64 (o j : Int)) := by rw [HW.out]; exact HTB9.out.or.cell hjT
                                have hoN := HV.out j hjT
                                have hoN2 : (o j : Int) < (N5 : Int) := by omega
                                obtain ⟨b4, rfl, c4⟩ := HO46.out (by omega)
                                have d4 : wr.cell? ⟨b4, o j, none⟩ = some (.int .i32 (Pt (o j))) := by rw [HW.out]; exact (HTB9.out.bel.cell (cell_lt (c4 (o j) hoN))).trans (c4 (o j) hoN)
                                obtain ⟨b9, rfl, c9⟩ := HO9.out (by have := HPL.out; omega)
                                have f9 : wr.cell? ⟨b9, j - lo, none⟩ = some (.int .i32 (Pt (o j))) := by
                                  rw [HW.out]
                                  have h1 : w9.cell? ⟨b9, j - lo, none⟩ = some (.int .i32 (P.getD (j - lo) 0)) := c9 (j - lo) (by have := HPL.out; omega)
                                  rw [HPT.out (j - lo) (by have h1 := HFP.out; have h2 := HCC.out; omega), show lo + (j - lo) = j by omega] at h1
                                  exact h1
                                clear c4 c9
                                have htn3 : ((j : Int) - (lo : Int)).toNat = j - lo := by omega
                                have hjl : (j : Int) - (lo : Int) < (P.length : Int) := by have := HPL.out; omega
                                have hjl0 : (0 : Int) ≤ (j : Int) - (lo : Int) := by omega
                                have hjh2 : (j : Int) < (hi' : Int) := by omega
                                go_wp2_with fail
                                go_quiet (fail)
                                go_wp2_with fail
                                go_roundw
                                case rel => exact ⟨j + 1, by omega, by omega, by go_num, d + nq, by show _ = _; rw [HW.out, World.drewN_drewN]⟩
                                case measure => simp [intOf]; omega
                              · have hjh2 : (hi' : Int) ≤ (j : Int) := by omega
                                go_wp2_with fail
                                go_roundw
                                case rel => exact ⟨i + 1, o, ps, by omega, by go_num, (by show Tb _ _ _ _ _ _ _ _ _; rw [HW.out]; exact HTB9.out.draws d), HR1, HV⟩
                                case measure => simp [intOf]; omega
                      · have hin : m = i := by omega
                        subst hin
                        go_wp2_with fail
                        go_ret
                        exact ⟨rfl, nxt (nxt HB5.out HB6.out) HTB.out.bel⟩
end Go.Proofs.Qxb6000857aMods.RecW
