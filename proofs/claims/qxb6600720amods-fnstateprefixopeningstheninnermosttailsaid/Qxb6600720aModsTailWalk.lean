/-
  THE WALK of FnStatePrefixOpeningsThenInnermostTail (function 4).
-/
import Derived.Test.Qxb6600720aModsStWalks
namespace Go.Proofs.Qxb6600720aMods.TailW
open Go.RowKit Mem StP StW
set_option linter.unusedVariables false

theorem bytes_ok (a0 : Option Addr) (len0 cap0 : Nat) (a1 : Int) (h1 : len0 ≤ 1048576) (w : World) :
    Calls Trym.prog 15 #[.slice a0 len0 cap0, .int .i64 a1] w fun e w' => e = .returned (.bool true) ∧ w = w' := by
  go_enter Trym.func15, Trym.ntmps15
  go_wp2
  go_ret
  exact ⟨rfl, rfl⟩

theorem long (a0 : Option Addr) (len0 cap0 : Nat) (a1 : Int) (w : World) (h1 : 65536 < len0) (h2 : len0 ≤ 9223372036854775807) :
    Calls Trym.prog 4 #[.slice a0 len0 cap0, .int .i64 a1] w fun e w' => e = .returned (.bool true) ∧ w' = w := by
  by_cases h3 : len0 ≤ 1048576
  · go_enter Trym.func4, Trym.ntmps4
    go_wp2
    go_ret
    exact ⟨rfl, rfl⟩
  · go_enter Trym.func4, Trym.ntmps4
    go_wp2
    go_ret
    exact ⟨rfl, rfl⟩

/-- Nothing is open: a nil slice. -/
theorem none_nil (a1 : Int) (w : World) :
    Calls Trym.prog 4 #[.slice none 0 0, .int .i64 a1] w fun e w' => e = .returned (.bool true) ∧ Below w.heap.size w w' := by
  go_enter Trym.func4, Trym.ntmps4
  go_wp2_with fail
  refine (bytes_ok none 0 0 a1 (by omega) _).mono ?_
  rintro e w' ⟨rfl, rfl⟩
  go_wp2_with fail
  refine (clone_nil _).mono ?_
  rintro e w1 ⟨rfl, rfl⟩
  go_wp2_with fail
  refine (zz_none none 0 1 (.inl rfl) _).mono ?_
  rintro e w2 ⟨rfl, rfl⟩
  go_wp2_with fail
  refine (zz_none none 0 3 (.inr rfl) _).mono ?_
  rintro e w2 ⟨rfl, rfl⟩
  go_wp2_with fail
  refine (same_nil _).mono ?_
  rintro e w2 ⟨rfl, rfl⟩
  go_wp2
  go_ret
  exact ⟨rfl, Below.refl _ _⟩

/-- Nothing is open: an empty slice. -/
theorem none_row (x : Addr) (cap : Nat) (a1 : Int) (z : List Int) (w : World) (hz : z.length = cap) (hc : Hid (∀ i, i < z.length → w.cell? (x.add i) = some (.int .u8 (z.getD i 0)))) :
    Calls Trym.prog 4 #[.slice (some x) 0 cap, .int .i64 a1] w fun e w' => e = .returned (.bool true) ∧ Below w.heap.size w w' := by
  go_enter Trym.func4, Trym.ntmps4
  go_wp2_with fail
  refine (bytes_ok (some x) 0 cap a1 (by omega) _).mono ?_
  rintro e w' ⟨rfl, rfl⟩
  go_wp2_with fail
  refine (clone_row x 0 cap z _ (by omega) (by omega) hz hc.out).mono ?_
  rintro e w1 ⟨rfl, hb1, hbl, hs1⟩
  have HB : Hid (Below w.heap.size w w1) := hb1
  clear hb1 hbl
  go_wp2_with fail
  refine (zz_none _ 0 1 (.inl rfl) _).mono ?_
  rintro e w2 ⟨rfl, rfl⟩
  go_wp2_with fail
  refine (zz_none _ 0 3 (.inr rfl) _).mono ?_
  rintro e w2 ⟨rfl, rfl⟩
  go_wp2_with fail
  refine (same_nil _).mono ?_
  rintro e w2 ⟨rfl, rfl⟩
  go_wp2
  go_ret
  exact ⟨rfl, HB.out⟩

theorem bytes_drewN {w : World} {b off : Nat} {l : List Int} (h : Bytes w b off l) (q : Nat) : Bytes (w.drewN q) b off l := fun j hj => h j hj
theorem below_of_drewN {B q : Nat} {w w' : World} (h : Below B (w.drewN q) w') : Below B w w' := ⟨h.os, h.tape, h.output, h.size, h.block⟩
theorem below_drew {B q : Nat} {w w' : World} (h : Below B w w') : Below B w (w'.drewN q) := ⟨h.os, h.tape, h.output, h.size, h.block⟩
theorem hide {p : Prop} (h : p) : Hid p := h

set_option maxHeartbeats 1000000 in
theorem main (x : Addr) (n cap N : Nat) (st : Int) (z l O : List Int) (w : World) (hl : n ≤ cap) (hn1 : 1 ≤ n) (hm : n ≤ 65536) (hz : z.length = cap) (hll : l.length = n) (HLZ : Hid (l = z.take n))
    (hc : Hid (∀ i, i < z.length → w.cell? (x.add i) = some (.int .u8 (z.getD i 0)))) (HO : Hid (O = opTo l n)) (HN : Hid (O.length = N)) (hN1 : n ≤ N) (hN4 : N ≤ 4 * n)
    (t : Nat) (T : List Int) (br c0 : Int) (HW : Hid (sp l st = O ++ T)) (HI : Hid (sp [c0] st = br :: T)) (HT : Hid (T.length = t)) (ht8 : t ≤ 8) (HC0 : Hid (l.drop (n - 1) = [c0])) :
    Calls Trym.prog 4 #[.slice (some x) n cap, .int .i64 st] w fun e w' => e = .returned (.bool true) ∧ Below w.heap.size w w' := by
  have hn0 : ((n : Int) == 0) = false := by simp; omega
  have HO1 : Hid (sp l 1 = O) := by show _ = _; rw [sp_1, hll, HO.out]
  have HO3 : Hid (sp l 3 = O) := by show _ = _; rw [sp_3, hll, HO.out]
  go_enter Trym.func4, Trym.ntmps4
  go_wp2_with fail
  refine (bytes_ok (some x) n cap st (by omega) _).mono ?_
  rintro e w' ⟨rfl, rfl⟩
  go_wp2_with fail
  refine (clone_row x n cap z _ hl (by omega) hz hc.out).mono ?_
  rintro e w1 ⟨rfl, hb1, hbl, hs1⟩
  rw [← HLZ.out] at hbl
  have HB1 : Hid (Below w.heap.size w w1) := hb1
  have HL1 : Hid (Bytes w1 w.heap.size 0 l) := hbl.bytes
  clear hb1 hbl
  go_wp2_with fail
  refine (zz_row w.heap.size 0 n n N l 1 hll hn1 hm _ HL1.out (by omega) (by rw [HO1.out]; exact HN.out)).mono ?_
  rintro e w2 ⟨g1, c1, rfl, hg1, hg1', hB1, hb2⟩
  rw [HO1.out] at hB1
  have HB2 : Hid (Below w.heap.size w w2) := HB1.out.trans (hb2.mono (by omega))
  have HL2 : Hid (Bytes w2 w.heap.size 0 l) := HL1.out.below hb2 (by omega)
  have HG1 : Hid (Bytes w2 g1 0 O) := hB1
  have hsz2 := hb2.size
  clear hB1 hb2 HL1 HB1
  go_wp2_with fail
  refine (zz_row w.heap.size 0 n n N l 3 hll hn1 hm _ HL2.out (by omega) (by rw [HO3.out]; exact HN.out)).mono ?_
  rintro e w3 ⟨g2, c2, rfl, hg2, hg2', hB2, hb3⟩
  rw [HO3.out] at hB2
  have HB3 : Hid (Below w.heap.size w w3) := HB2.out.trans (hb3.mono (by omega))
  have HL3 : Hid (Bytes w3 w.heap.size 0 l) := HL2.out.below hb3 (by omega)
  have HG1' : Hid (Bytes w3 g1 0 O) := HG1.out.below hb3 (by omega)
  have HG2 : Hid (Bytes w3 g2 0 O) := hB2
  have hsz3 := hb3.size
  clear hB2 hb3 HL2 HB2 HG1
  go_wp2_with fail
  refine (same_any g1 c1 g2 c2 N O HN.out (by omega) _ HG1'.out HG2.out).mono ?_
  rintro e w4 ⟨rfl, q, rfl⟩
  go_wp2_with fail
  clear HG2 HO1 HO3 HLZ hc
  go_loop [6, 7] (fun a i => ∃ k s : Nat, k ≤ n ∧ s ≤ k ∧ a = .int .i64 (s : Int) ∧ i = .int .i64 (k : Int) ∧ Hid (s = (l.take k).count 93)) (fun _ i => (n - intOf i).toNat)
  case atStart => exact ⟨0, 0, by omega, by omega, rfl, rfl, rfl⟩
  case round =>
    obtain ⟨k, s, hk, hs, rfl, rfl, HS⟩ := hrel
    by_cases hlt : k < n
    · have hck : w3.cell? ⟨w.heap.size, k, none⟩ = some (.int .u8 (l.getD k 0)) := by simpa using HL3.out k (by omega)
      have HCS := hide (count_snoc l k 93 (by omega))
      generalize l.getD k 0 = c at hck HCS
      by_cases hc : c = 93
      · have hc' : (c == 93) = true := by simpa using hc
        have HS' : Hid (s + 1 = (l.take (k + 1)).count 93) := by show _ = _; rw [HCS.out, ← HS.out, if_pos hc]
        clear hc HCS
        go_wp2
        go_round
        case rel => exact ⟨k + 1, s + 1, by omega, by omega, by go_num, by go_num, HS'⟩
        case measure => simp [intOf]; omega
      · have hc' : (c == 93) = false := by simpa using hc
        have HS' : Hid (s = (l.take (k + 1)).count 93) := by show _ = _; rw [HCS.out, ← HS.out, if_neg hc]; rfl
        clear hc HCS
        go_wp2
        go_round
        case rel => exact ⟨k + 1, s, by omega, by omega, by go_num, by go_num, HS'⟩
        case measure => simp [intOf]; omega
    · have hkn : k = n := by omega
      subst hkn
      go_wp2
      go_loop [8, 9, 10] (fun a b i => ∃ j p r : Nat, j ≤ N ∧ p ≤ j ∧ r ≤ j ∧ a = .int .i64 (p : Int) ∧ b = .int .i64 (r : Int) ∧ i = .int .i64 (j : Int) ∧ Hid (p = (O.take j).count 91 ∧ r = (O.take j).count 123)) (fun _ _ i => (N - intOf i).toNat)
      case atStart => exact ⟨0, 0, 0, by omega, by omega, by omega, rfl, rfl, rfl, ⟨rfl, rfl⟩⟩
      case round =>
        obtain ⟨j, p, r, hj, hp, hr, rfl, rfl, rfl, HPR⟩ := hrel
        by_cases hlt2 : j < N
        · have hcj : w3.cell? ⟨g1, j, none⟩ = some (.int .u8 (O.getD j 0)) := by simpa using HG1'.out j (by have := HN.out; omega)
          have HC91 := hide (count_snoc O j 91 (by have := HN.out; omega))
          have HC123 := hide (count_snoc O j 123 (by have := HN.out; omega))
          generalize O.getD j 0 = c at hcj HC91 HC123
          by_cases hc : c = 91
          · subst hc
            have HPR' : Hid (p + 1 = (O.take (j + 1)).count 91 ∧ r = (O.take (j + 1)).count 123) := by
              refine ⟨?_, ?_⟩
              · rw [HC91.out, ← HPR.out.1, if_pos rfl]
              · rw [HC123.out, ← HPR.out.2, if_neg (by decide)]; rfl
            clear HC91 HC123
            go_wp2
            go_round
            case rel => exact ⟨j + 1, p + 1, r, by omega, by omega, by omega, by go_num, by go_num, by go_num, HPR'⟩
            case measure => simp [intOf]; omega
          · have hc' : (c == 91) = false := by simpa using hc
            by_cases hd : c = 123
            · have hd' : (c == 123) = true := by simpa using hd
              have HPR' : Hid (p = (O.take (j + 1)).count 91 ∧ r + 1 = (O.take (j + 1)).count 123) := by
                refine ⟨?_, ?_⟩
                · rw [HC91.out, ← HPR.out.1, if_neg hc]; rfl
                · rw [HC123.out, ← HPR.out.2, if_pos hd]
              clear HC91 HC123 hc hd
              go_wp2
              go_round
              case rel => exact ⟨j + 1, p, r + 1, by omega, by omega, by omega, by go_num, by go_num, by go_num, HPR'⟩
              case measure => simp [intOf]; omega
            · have hd' : (c == 123) = false := by simpa using hd
              have HPR' : Hid (p = (O.take (j + 1)).count 91 ∧ r = (O.take (j + 1)).count 123) := by
                refine ⟨?_, ?_⟩
                · rw [HC91.out, ← HPR.out.1, if_neg hc]; rfl
                · rw [HC123.out, ← HPR.out.2, if_neg hd]; rfl
              clear HC91 HC123 hc hd
              go_wp2
              go_round
              case rel => exact ⟨j + 1, p, r, by omega, by omega, by omega, by go_num, by go_num, by go_num, HPR'⟩
              case measure => simp [intOf]; omega
        · have hjN : j = N := by omega
          subst hjN
          have hps : p = s := by
            rw [HPR.out.1, HS.out, List.take_of_length_le (by have := HN.out; omega), HO.out]; exact count91 l k (by omega)
          have hrs : r + s = k := by
            rw [HPR.out.2, HS.out, List.take_of_length_le (by have := HN.out; omega), HO.out]; exact count123 l k (by omega)
          clear HPR HS
          have t1 : ((p : Int) != (s : Int)) = false := by simp; omega
          have t2 : ((r : Int) != ((k : Int) - (s : Int))) = false := by simp; omega
          clear hps hrs
          go_wp2_with fail
          refine (zz_row w.heap.size 0 k k (j + t) l st hll hn1 hm _ (bytes_drewN HL3.out q) (by simp; omega) (by rw [HW.out, List.length_append, HN.out, HT.out])).mono ?_
          rintro e w5 ⟨g4, c4, rfl, hg4, hg4', hB4, hb5⟩
          rw [HW.out] at hB4
          simp only [World.heap_drewN] at hg4 hb5
          have hb5' : Below w3.heap.size w3 w5 := below_of_drewN hb5
          have HB5 : Hid (Below w.heap.size w w5) := HB3.out.trans (hb5'.mono (by omega))
          have HL5 : Hid (Bytes w5 w.heap.size 0 l) := HL3.out.below hb5' (by omega)
          have HG5 : Hid (Bytes w5 g1 0 O) := HG1'.out.below hb5' (by omega)
          have HG4 : Hid (Bytes w5 g4 0 (O ++ T)) := hB4
          have hsz5 := hb5'.size
          clear hB4 hb5 hb5' HL3 HB3 HG1'
          go_wp2_with fail
          rw [show k - (k - 1) = 1 by omega]
          refine (zz_row w.heap.size (k - 1) 1 1 (t + 1) [c0] st rfl (by omega) (by omega) _ (by have := HL5.out.drop (k - 1); rw [HC0.out, Nat.zero_add] at this; exact this) (by omega) (by rw [HI.out, List.length_cons, HT.out])).mono ?_
          rintro e w6 ⟨g6, c6, rfl, hg6, hg6', hB6, hb6⟩
          rw [HI.out] at hB6
          have HB6 : Hid (Below w.heap.size w w6) := HB5.out.trans (hb6.mono (by omega))
          have HG5' : Hid (Bytes w6 g1 0 O) := HG5.out.below hb6 (by omega)
          have HG4' : Hid (Bytes w6 g4 0 (O ++ T)) := HG4.out.below hb6 (by omega)
          have HG6 : Hid (Bytes w6 g6 0 (br :: T)) := hB6
          clear hB6 hb6 HL5 HB5 HG5 HG4
          have t3 : (((t : Int) + 1) == 0) = false := by simp; omega
          have t4 : (((j : Int) + (t : Int)) != ((j : Int) + ((t : Int) + 1) - 1)) = false := by simp; omega
          go_wp2_with fail
          go_loopw [13] (fun i wr => ∃ m q : Nat, m ≤ j ∧ i = .int .i64 (m : Int) ∧ wr = w6.drewN q) (fun i _ => (j - intOf i).toNat)
          case atStart => exact ⟨0, 0, by omega, rfl, rfl⟩
          case round =>
            obtain ⟨m, q1, hmj, rfl, rfl⟩ := hrel
            by_cases hlt3 : m < j
            · have e1 : w6.cell? ⟨g4, m, none⟩ = some (.int .u8 (O.getD m 0)) := by
                have := HG4'.out m (by rw [List.length_append, HN.out]; omega)
                rw [Nat.zero_add] at this
                rw [this]; simp [List.getD, List.getElem?_append_left (show m < O.length by rw [HN.out]; omega)]
              have e2 : w6.cell? ⟨g1, m, none⟩ = some (.int .u8 (O.getD m 0)) := by simpa using HG5'.out m (by rw [HN.out]; omega)
              generalize O.getD m 0 = c at e1 e2
              have b1 : (m : Int) < ((j + t : Nat) : Int) := by omega
              have b2 : (m : Int) < (j : Int) := by omega
              go_wp2
              go_quiet (fail)
              go_wp2
              go_roundw
              case rel => exact ⟨m + 1, _, by omega, by go_num, rfl⟩
              case measure => simp [intOf]; omega
            · have hmj' : m = j := by omega
              subst hmj'
              go_wp2
              go_loopw [14] (fun i wr => ∃ u q : Nat, u ≤ t ∧ i = .int .i64 ((u : Int) + 1) ∧ wr = w6.drewN q) (fun i _ => (t + 1 - intOf i).toNat)
              case atStart => exact ⟨0, q1, by omega, rfl, rfl⟩
              case round =>
                obtain ⟨u, q2, hut, rfl, rfl⟩ := hrel
                by_cases hlt4 : u < t
                · have e1 : w6.cell? ⟨g4, m + u, none⟩ = some (.int .u8 (T.getD u 0)) := by
                    have := HG4'.out (m + u) (by rw [List.length_append, HN.out, HT.out]; omega)
                    rw [Nat.zero_add] at this
                    rw [this]; simp [List.getD, List.getElem?_append_right (show O.length ≤ m + u by rw [HN.out]; omega), HN.out]
                  have e2 : w6.cell? ⟨g6, u + 1, none⟩ = some (.int .u8 (T.getD u 0)) := by
                    have := HG6.out (u + 1) (by rw [List.length_cons, HT.out]; omega)
                    rw [Nat.zero_add] at this
                    rw [this]; simp [List.getD]
                  generalize T.getD u 0 = c at e1 e2
                  have b1 : (m : Int) + ((u : Int) + 1) - 1 < ((m + t : Nat) : Int) := by omega
                  have b2 : (u : Int) + 1 < ((t + 1 : Nat) : Int) := by omega
                  have e1' : w6.cell? ⟨g4, m + (u + 1) - 1, none⟩ = some (.int .u8 c) := e1
                  go_wp2
                  go_quiet (fail)
                  go_wp2
                  go_roundw
                  case rel => exact ⟨u + 1, _, by omega, by go_num, rfl⟩
                  case measure => simp [intOf]; omega
                · go_wp2
                  go_ret
                  exact ⟨rfl, below_drew HB6.out⟩

def IsRow (k : IntKind) (w : World) (a : Option Addr) (len cap : Nat) (zs : List Int) : Prop :=
  (a = none ∧ len = 0 ∧ cap = 0 ∧ zs = []) ∨
  ∃ x, a = some x ∧ len ≤ cap ∧ cap ≤ maxLen ∧ zs.length = cap ∧ (∀ i, i < zs.length → w.cell? (x.add i) = some (.int k (zs.getD i 0))) ∧ ∀ n ∈ zs, (Lit.int k n).wf = true

theorem drop_last (l : List Int) (h : 1 ≤ l.length) : l.drop (l.length - 1) = [l.getD (l.length - 1) 0] := by
  rw [List.drop_eq_getElem_cons (by omega)]
  simp [List.getD, show l.length - 1 < l.length by omega, show l.length - 1 + 1 = l.length by omega]

theorem walk (a0 : Option Addr) (len0 cap0 : Nat) (z0 : List Int) (a1 : Int) (w : World) (w0 : IsRow .u8 w a0 len0 cap0 z0) (w1 : (Lit.int .i64 a1).wf = true) :
    Calls Trym.prog 4 #[.slice a0 len0 cap0, .int .i64 a1] w fun e w' => e = .returned (.bool true) ∧ Below w.heap.size w w' := by
  have hlen : len0 ≤ 9223372036854775807 := by
    rcases w0 with ⟨_, h, _, _⟩ | ⟨x, _, h1, h2, _⟩
    · omega
    · unfold maxLen at h2; omega
  by_cases h1 : 65536 < len0
  · refine (long a0 len0 cap0 a1 w h1 hlen).mono ?_
    rintro e w' ⟨rfl, rfl⟩; exact ⟨rfl, Below.refl _ _⟩
  rcases w0 with ⟨rfl, rfl, rfl, _⟩ | ⟨x, rfl, hl, hm, hz, hc, hwz⟩
  · exact none_nil a1 w
  · by_cases h0 : len0 = 0
    · subst h0; exact none_row x cap0 a1 z0 w hz hc
    · have hll : (z0.take len0).length = len0 := by simp; omega
      have ho := opTo_len (z0.take len0) len0
      obtain ⟨br, hbr⟩ := sp_one ((z0.take len0).getD (len0 - 1) 0) a1
      have hd := drop_last (z0.take len0) (by omega)
      rw [hll] at hd
      exact main x len0 cap0 _ a1 z0 (z0.take len0) _ w hl (by omega) (by omega) hz hll rfl hc rfl rfl ho.1 ho.2 _ _ br _ (by show _ = _; rw [sp, lastObj, hll]) hbr rfl (tl_len _ _ _) hd

end Go.Proofs.Qxb6600720aMods.TailW
