/-
  THE WALKS of statePrefix, ZZstatePrefix, zzSameBytes (functions 24, 13, 16).
-/
import Derived.Test.Qxb6600720aModsMem
import Derived.Test.Qxb6600720aModsStPlain
import Derived.Lib.BufSteps
import Derived.Deep.QuietTactic
import Derived.BigQuiet
namespace Go.Proofs.Qxb6600720aMods.StW
open Go.RowKit Mem StP
set_option linter.unusedVariables false

/-- The slice v is the call's own and bears the bytes l. -/
def Own (B : Nat) (v : Value) (l : List Int) (w0 w : World) : Prop := Lib.OwnBuf B 5 v l.length (cells l) w0 w

theorem Own.nil (w : World) : Own w.heap.size (.slice none 0 0) [] w w := ⟨World.ownsRowF_nil _ _ _ _, Below.refl _ _, Nat.le_refl _⟩

theorem Own.byte {B : Nat} {v : Value} {l : List Int} (l' : List Int) {c : Int} {w0 w : World} (h : Lib.OwnBuf B 5 v (l.length + 1) (cells l ++ [.int .u8 c]) w0 w) (h1 : l' = l ++ [c]) : Own B v l' w0 w := by
  subst h1
  have e1 : (l ++ [c]).length = l.length + 1 := by simp
  have e2 : cells (l ++ [c]) = cells l ++ [.int .u8 c] := by simp [cells]
  unfold Own; rw [e1, e2]; exact h

theorem Own.text {B : Nat} {v : Value} {l : List Int} (l' : List Int) {s : ByteArray} {t : List Int} {w0 w : World} (h : Lib.OwnBuf B 5 v (l.length + s.size) (cells l ++ Lib.strCells s) w0 w) (hs : s.size = t.length ∧ Lib.strCells s = cells t) (h1 : l' = l ++ t) : Own B v l' w0 w := by
  subst h1
  have e1 : (l ++ t).length = l.length + s.size := by simp [hs.1]
  have e2 : cells (l ++ t) = cells l ++ Lib.strCells s := by rw [hs.2]; simp [cells]
  unfold Own; rw [e1, e2]; exact h

theorem text_small (l : List Int) (s : ByteArray) (h : l.length ≤ 300000) (hs : s.size ≤ 8) : l.length + s.size ≤ 140737488355328 := by omega

theorem sp_of {l : List Int} {st : Int} {a t x : List Int} (h : sp l st = a ++ x) (hx : x = t) : sp l st = a ++ t := by rw [h, hx]

set_option maxHeartbeats 1000000 in
theorem prefix_row (b off n cap : Nat) (l : List Int) (st : Int) (hl : l.length = n) (hn1 : 1 ≤ n) (hm : n ≤ 65536) (w : World) (HB : Hid (Bytes w b off l)) (hb : b < w.heap.size) :
    Calls Trym.prog 24 #[.slice (some ⟨b, off, none⟩) n cap, .int .i64 st] w fun e w' => ∃ v, e = .returned v ∧ Own w.heap.size v (sp l st) w w' := by
  obtain ⟨i0, hi, hz0, hz1, hz2⟩ := info_parts info5
  have HI : Hid (Trym.prog.info? 5 = some i0) := hi
  have HZ0 : Hid (i0.zero = some (.int .u8 0)) := hz0
  have HZ1 : Hid (i0.size = 1) := hz1
  have HZ2 : Hid (i0.bytes = 1) := hz2
  clear hi hz0 hz1 hz2
  go_enter Trym.func24, Trym.ntmps24
  go_wp2
  go_loopw [5, 11] (fun v i wr => ∃ k : Nat, k ≤ n ∧ i = .int .i64 (k : Int) ∧ Hid (Own w.heap.size v (opTo l k) w wr)) (fun _ i _ => (n - intOf i).toNat)
  case atStart => exact ⟨0, by omega, rfl, Own.nil w⟩
  case round =>
    obtain ⟨k, hk, rfl, HO⟩ := hrel
    have hlen := opTo_len l k
    by_cases hlt : k < n
    · have hck : wr.cell? ⟨b, off + k, none⟩ = some (.int .u8 (l.getD k 0)) := (HO.out.2.1.cell hb).trans (HB.out k (by omega))
      have hop : opTo l (k + 1) = opTo l k ++ piece n k (l.getD k 0) := by rw [← hl]; rfl
      generalize l.getD k 0 = c at hck hop
      have HOP : Hid (opTo l (k + 1) = opTo l k ++ piece n k c) := hop
      clear hop
      by_cases hc : c = 93
      · have hc' : (c == 93) = true := by simpa using hc
        have HP : Hid (piece n k c = [91]) := by show _ = _; rw [piece, if_pos hc]
        clear hc
        go_wp2_with (at_builtin; refine Lib.wpList_append_byte rfl (.tmp 18) (.tmp 19) 22 rfl w.heap.size 5 i0 Trym.underlying22 HI.out HZ0.out HZ1.out HZ2.out _ _ _ rfl w wr 91 HO.out rfl ?_ ?_; omega; intro v1 w1 ho1; have HO1 : Hid (Own w.heap.size v1 (opTo l (k + 1)) w w1) := Own.byte _ ho1 (HOP.out.trans (congrArg _ HP.out)); clear ho1)
        go_roundw
        case rel => exact ⟨k + 1, by omega, by go_num, HO1⟩
        case measure => simp [intOf]; omega
      · have hc' : (c == 93) = false := by simpa using hc
        by_cases hin : k + 1 < n
        · have HP : Hid (piece n k c = [123] ++ [34, 34, 58]) := by show _ = _; rw [piece, if_neg hc, if_pos hin]; rfl
          clear hc
          have hl1 : (opTo l k ++ [123]).length ≤ 300000 := by simp; omega
          go_wp2_with (first
            | (at_builtin; refine Lib.wpList_append_byte rfl (.tmp 21) (.tmp 22) 22 rfl w.heap.size 5 i0 Trym.underlying22 HI.out HZ0.out HZ1.out HZ2.out _ _ _ rfl w wr 123 HO.out rfl ?_ ?_; omega; intro v1 w1 ho1; have HO1 : Hid (Own w.heap.size v1 (opTo l k ++ [123]) w w1) := Own.byte _ ho1 rfl; clear ho1)
            | (at_builtin; refine Lib.wpList_append_text rfl (.tmp 29) (.const (.string ⟨#[34, 34, 58]⟩)) 22 9 rfl w.heap.size 5 i0 Trym.underlying22 Trym.underlying9 HI.out HZ0.out HZ1.out HZ2.out _ _ _ rfl w HO1.out ⟨#[34, 34, 58]⟩ rfl ?_ ?_; exact text_small _ _ hl1 (by decide); intro v2 w2 ho2; have HO2 : Hid (Own w.heap.size v2 (opTo l (k + 1)) w w2) := Own.text _ (t := [34, 34, 58]) ho2 ⟨rfl, rfl⟩ (by rw [HOP.out, HP.out, List.append_assoc]); clear ho2))
          go_roundw
          case rel => exact ⟨k + 1, by omega, by go_num, HO2⟩
          case measure => simp [intOf]; omega
        · have HP : Hid (piece n k c = [123]) := by show _ = _; rw [piece, if_neg hc, if_neg hin]
          clear hc
          go_wp2_with (at_builtin; refine Lib.wpList_append_byte rfl (.tmp 21) (.tmp 22) 22 rfl w.heap.size 5 i0 Trym.underlying22 HI.out HZ0.out HZ1.out HZ2.out _ _ _ rfl w wr 123 HO.out rfl ?_ ?_; omega; intro v1 w1 ho1; have HO1 : Hid (Own w.heap.size v1 (opTo l (k + 1)) w w1) := Own.byte _ ho1 (HOP.out.trans (congrArg _ HP.out)); clear ho1)
          go_roundw
          case rel => exact ⟨k + 1, by omega, by go_num, HO1⟩
          case measure => simp [intOf]; omega
    · have hkn : k = n := by omega
      subst hkn
      have hcl : wr.cell? ⟨b, off + (k - 1), none⟩ = some (.int .u8 (l.getD (k - 1) 0)) := (HO.out.2.1.cell hb).trans (HB.out (k - 1) (by omega))
      have HSP : Hid (sp l st = opTo l k ++ tl st (l.getD (k - 1) 0 == 125) true) := by show _ = _; rw [sp, lastObj, hl]
      generalize l.getD (k - 1) 0 = c at hcl HSP
      have hl1 : (opTo l k).length ≤ 300000 := by omega
      by_cases h2 : st = 2
      · subst h2
        cases hc : (c == 125)
        all_goals
          go_wp2_with (at_builtin; refine Lib.wpList_append_text rfl (.tmp 47) (.const (.string ⟨#[34, 34, 58, 110, 117, 108, 108, 44]⟩)) 22 9 rfl w.heap.size 5 i0 Trym.underlying22 Trym.underlying9 HI.out HZ0.out HZ1.out HZ2.out _ _ _ rfl w HO.out ⟨#[34, 34, 58, 110, 117, 108, 108, 44]⟩ rfl ?_ ?_; exact text_small _ _ hl1 (by decide); intro v2 w2 ho2; have HO2 : Hid (Own w.heap.size v2 (sp l 2) w w2) := Own.text _ (t := [34, 34, 58, 110, 117, 108, 108, 44]) ho2 ⟨rfl, rfl⟩ (sp_of HSP.out (by simp [tl])); clear ho2)
          go_ret
          exact ⟨_, rfl, HO2⟩
      have h2' : (st == 2) = false := by simpa using h2
      by_cases h0 : st = 0
      · subst h0
        cases hc : (c == 125)
        · have HT : Hid (tl 0 (c == 125) true = [110, 117, 108, 108, 44]) := by show _ = _; rw [hc]; rfl
          go_wp2_with (at_builtin; refine Lib.wpList_append_text rfl (.tmp 65) (.const (.string ⟨#[110, 117, 108, 108, 44]⟩)) 22 9 rfl w.heap.size 5 i0 Trym.underlying22 Trym.underlying9 HI.out HZ0.out HZ1.out HZ2.out _ _ _ rfl w HO.out ⟨#[110, 117, 108, 108, 44]⟩ rfl ?_ ?_; exact text_small _ _ hl1 (by decide); intro v2 w2 ho2; have HO2 : Hid (Own w.heap.size v2 (sp l 0) w w2) := Own.text _ (t := [110, 117, 108, 108, 44]) ho2 ⟨rfl, rfl⟩ (sp_of HSP.out HT.out); clear ho2)
          go_ret
          exact ⟨_, rfl, HO2⟩
        · have HT : Hid (tl 0 (c == 125) true = [34, 34, 58]) := by show _ = _; rw [hc]; rfl
          go_wp2_with (at_builtin; refine Lib.wpList_append_text rfl (.tmp 55) (.const (.string ⟨#[34, 34, 58]⟩)) 22 9 rfl w.heap.size 5 i0 Trym.underlying22 Trym.underlying9 HI.out HZ0.out HZ1.out HZ2.out _ _ _ rfl w HO.out ⟨#[34, 34, 58]⟩ rfl ?_ ?_; exact text_small _ _ hl1 (by decide); intro v2 w2 ho2; have HO2 : Hid (Own w.heap.size v2 (sp l 0) w w2) := Own.text _ (t := [34, 34, 58]) ho2 ⟨rfl, rfl⟩ (sp_of HSP.out HT.out); clear ho2)
          go_ret
          exact ⟨_, rfl, HO2⟩
      have h0' : (st == 0) = false := by simpa using h0
      by_cases h4 : st = 4
      · subst h4
        cases hc : (c == 125)
        · have HT : Hid (tl 4 (c == 125) true = [110, 117, 108, 108]) := by show _ = _; rw [hc]; rfl
          go_wp2_with (at_builtin; refine Lib.wpList_append_text rfl (.tmp 78) (.const (.string ⟨#[110, 117, 108, 108]⟩)) 22 9 rfl w.heap.size 5 i0 Trym.underlying22 Trym.underlying9 HI.out HZ0.out HZ1.out HZ2.out _ _ _ rfl w HO.out ⟨#[110, 117, 108, 108]⟩ rfl ?_ ?_; exact text_small _ _ hl1 (by decide); intro v2 w2 ho2; have HO2 : Hid (Own w.heap.size v2 (sp l 4) w w2) := Own.text _ (t := [110, 117, 108, 108]) ho2 ⟨rfl, rfl⟩ (sp_of HSP.out HT.out); clear ho2)
          go_ret
          exact ⟨_, rfl, HO2⟩
        · have HT : Hid (tl 4 (c == 125) true = [34, 34, 58, 110, 117, 108, 108]) := by show _ = _; rw [hc]; rfl
          go_wp2_with (at_builtin; refine Lib.wpList_append_text rfl (.tmp 73) (.const (.string ⟨#[34, 34, 58, 110, 117, 108, 108]⟩)) 22 9 rfl w.heap.size 5 i0 Trym.underlying22 Trym.underlying9 HI.out HZ0.out HZ1.out HZ2.out _ _ _ rfl w HO.out ⟨#[34, 34, 58, 110, 117, 108, 108]⟩ rfl ?_ ?_; exact text_small _ _ hl1 (by decide); intro v2 w2 ho2; have HO2 : Hid (Own w.heap.size v2 (sp l 4) w w2) := Own.text _ (t := [34, 34, 58, 110, 117, 108, 108]) ho2 ⟨rfl, rfl⟩ (sp_of HSP.out HT.out); clear ho2)
          go_ret
          exact ⟨_, rfl, HO2⟩
      have h4' : (st == 4) = false := by simpa using h4
      have HS0 : Hid (sp l st = opTo l k) := by show _ = _; rw [HSP.out, tl, if_neg h2, if_neg h0, if_neg h4]; simp
      cases hc : (c == 125)
      all_goals
        go_wp2
        go_ret
        exact ⟨_, rfl, HS0.out ▸ HO.out⟩

theorem Own.shape {B : Nat} {v : Value} {l : List Int} {w0 w : World} (h : Own B v l w0 w) (hl : 0 < l.length) :
    ∃ g cap, v = .slice (some ⟨g, 0, none⟩) l.length cap ∧ B ≤ g ∧ g < w.heap.size ∧ Bytes w g 0 l ∧ Below B w0 w := by
  obtain ⟨⟨h1, h2⟩, hb, _⟩ := h
  rcases h2 with ⟨_, h2⟩ | ⟨g, cap, cur, fz, hv, hB, hg, _, hnc, hcm, hcs, ht⟩
  · omega
  · have hlt : g < w.heap.size := (Array.getElem?_eq_some_iff.1 hg).1
    refine ⟨g, cap, hv, hB, hlt, fun j hj => ?_, hb⟩
    simp only [Nat.mul_one] at ht hcs
    have hj2 : (cur.toList.take l.length)[j]? = some (.int .u8 (l.getD j 0)) := by rw [ht]; simp [cells, hj, List.getD]
    rw [List.getElem?_take, if_pos hj] at hj2
    simp [World.cell?, hg]
    simpa using hj2

/-- ZZstatePrefix, of one container or more. -/
theorem zz_row (b off n cap m : Nat) (l : List Int) (st : Int) (hl : l.length = n) (hn1 : 1 ≤ n) (hm : n ≤ 65536) (w : World) (hB : Bytes w b off l) (hb : b < w.heap.size) (hlen : (sp l st).length = m) :
    Calls Trym.prog 13 #[.slice (some ⟨b, off, none⟩) n cap, .int .i64 st] w fun e w' => ∃ g c, e = .returned (.slice (some ⟨g, 0, none⟩) m c) ∧ w.heap.size ≤ g ∧ g < w'.heap.size ∧ Bytes w' g 0 (sp l st) ∧ Below w.heap.size w w' := by
  have HB : Hid (Bytes w b off l) := hB
  have hpos : 0 < (sp l st).length := by have := (opTo_len l n).1; simp only [sp, List.length_append, hl]; omega
  have HP : Hid (0 < (sp l st).length) := hpos
  have HL : Hid ((sp l st).length = m) := hlen
  clear hB hpos hlen
  go_enter Trym.func13, Trym.ntmps13
  go_wp2_with fail
  refine (prefix_row b off n cap l st hl hn1 hm _ HB hb).mono ?_
  rintro e w1 ⟨v, rfl, ho⟩
  obtain ⟨g, c, hv, h1, h2, h3, h4⟩ := ho.shape HP.out
  rw [HL.out] at hv
  have H3 : Hid (Bytes w1 g 0 (sp l st)) := h3
  have H4 : Hid (Below w.heap.size w w1) := h4
  clear ho h3 h4
  subst hv
  go_wp2
  go_ret
  exact ⟨g, c, rfl, h1, h2, H3.out, H4.out⟩

/-- ZZstatePrefix of nothing, in the two states that add nothing. -/
theorem zz_none (a : Option Addr) (cap : Nat) (st : Int) (hst : st = 1 ∨ st = 3) (w : World) :
    Calls Trym.prog 13 #[.slice a 0 cap, .int .i64 st] w fun e w' => e = .returned (.slice none 0 0) ∧ w = w' := by
  rcases hst with rfl | rfl
  all_goals
    go_enter Trym.func13, Trym.ntmps13
    go_wp2
    go_loop [5, 11] (fun v i => v = .slice none 0 0 ∧ i = .int .i64 0) (fun _ _ => 0)
    case atStart => exact ⟨rfl, rfl⟩
    case round =>
      obtain ⟨rfl, rfl⟩ := hrel
      go_wp2
      go_ret
      exact ⟨rfl, rfl⟩

/-- zzSameBytes, of equal bytes. -/
theorem same_any (b1 c1 b2 c2 n : Nat) (l : List Int) (hl : l.length = n) (hm : n ≤ 300000) (w : World) (h1 : Bytes w b1 0 l) (h2 : Bytes w b2 0 l) :
    Calls Trym.prog 16 #[.slice (some ⟨b1, 0, none⟩) n c1, .slice (some ⟨b2, 0, none⟩) n c2] w fun e w' => e = .returned (.bool true) ∧ ∃ q, w' = w.drewN q := by
  have H1 : Hid (Bytes w b1 0 l) := h1
  have H2 : Hid (Bytes w b2 0 l) := h2
  clear h1 h2
  go_enter Trym.func16, Trym.ntmps16
  go_wp2
  go_loopw [5] (fun i wr => ∃ k q : Nat, k ≤ n ∧ i = .int .i64 (k : Int) ∧ wr = w.drewN q) (fun i _ => (n - intOf i).toNat)
  case atStart => exact ⟨0, 0, by omega, rfl, rfl⟩
  case round =>
    obtain ⟨k, q, hk, rfl, rfl⟩ := hrel
    by_cases hlt : k < n
    · have e1 : w.cell? ⟨b1, k, none⟩ = some (.int .u8 (l.getD k 0)) := by simpa using H1.out k (by omega)
      have e2 : w.cell? ⟨b2, k, none⟩ = some (.int .u8 (l.getD k 0)) := by simpa using H2.out k (by omega)
      generalize l.getD k 0 = c at e1 e2
      go_wp2
      go_quiet (fail)
      go_wp2
      go_roundw
      case rel => exact ⟨k + 1, _, by omega, by go_num, rfl⟩
      case measure => simp [intOf]; omega
    · go_wp2
      go_ret
      exact ⟨rfl, q, rfl⟩

theorem same_nil (w : World) :
    Calls Trym.prog 16 #[.slice none 0 0, .slice none 0 0] w fun e w' => e = .returned (.bool true) ∧ w = w' := by
  go_enter Trym.func16, Trym.ntmps16
  go_wp2
  go_loop [5] (fun i => i = .int .i64 0) (fun _ => 0)
  case atStart => rfl
  case round =>
    obtain rfl := hrel
    go_wp2
    go_ret
    exact ⟨rfl, rfl⟩

end Go.Proofs.Qxb6600720aMods.StW
