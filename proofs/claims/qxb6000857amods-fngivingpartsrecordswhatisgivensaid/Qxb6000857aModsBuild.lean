/-
  THE WALK of zzBuild (18).
-/
import Derived.Test.Qxb6000857aModsCopy
import Derived.Test.Qxb6000857aModsParts
namespace Go.Proofs.Qxb6000857aMods.BuildW
open Go.RowKit MapM AddW GivW NewW CopyW
set_option linter.unusedVariables false
attribute [local go_sem ↓] Go.wp_at_zero Go.wp_at_succ

/-- What the first k entries of a script have given. -/
def lTo (M : Nat → Nat) (Cl Pt : Nat → Int) (An : Nat → Bool) : Nat → Bool → Nat → Int → List Int
  | 0 => fun _ _ _ => []
  | k + 1 => updF (lTo M Cl Pt An k) (An k) (M k) (Cl k) (lTo M Cl Pt An k (An k) (M k) (Cl k) ++ [Pt k])
def ldTo (M : Nat → Nat) : Nat → Nat → Int
  | 0 => fun _ => 0
  | k + 1 => updL (ldTo M k) (M k) (ldTo M k (M k) + 1)

theorem giv_drew {S : Sh} {B cnt : Nat} {w : World} {f : Bool → Nat → Int → Value} {l : Bool → Nat → Int → List Int} {ld : Nat → Int} (h : Giv S B w cnt f l ld) : Giv S B w.drew cnt f l ld :=
  ⟨h.g, h.rows, h.loads, h.maps, h.owns, h.short, h.apart, h.mapsApart, h.bG, h.bR, h.bL, h.bM, h.ldb⟩

theorem el_elig {w : World} {a : Option Addr} {C n : Nat} {RA : Nat → Option Addr} {RL : Nat → Nat} {Z : Nat → Nat → Int} (h : ElOwn w a C RA RL Z) (hr : ∀ c, c < C → RL c ≤ 4096) (hz : ∀ c, c < C → ∀ k, k < RL c → 0 ≤ Z c k ∧ Z c k < n) : Elig w a C n := by
  intro c hc
  obtain ⟨b, e, h1⟩ := h.1 (by omega)
  refine ⟨b, RA c, RL c, RL c, e, h1 c hc, hr c hc, fun h0 => ?_⟩
  obtain ⟨r, e2, h2⟩ := h.2 c hc h0
  refine ⟨r, e2, fun k hk => ?_⟩
  have := hz c hc k hk
  exact ⟨(Z c k).toNat, by rw [h2 k hk, Int.toNat_of_nonneg this.1], by omega⟩

set_option maxRecDepth 100000 in
set_option maxHeartbeats 3200000 in
theorem build_any (n C N : Nat) (ea a2 a3 a4 a5 : Option Addr) (M : Nat → Nat) (Cl Pt : Nat → Int) (An : Nat → Bool) (w : World) (hn : n ≤ 65536) (hC : C ≤ 4096) (hN : N ≤ 4096) (hE : Elig w ea C n)
    (h2 : Own0 w a2 N (fun k => .int .i64 (M k : Int))) (h3 : Own0 w a3 N (fun k => .int .i32 (Cl k))) (h4 : Own0 w a4 N (fun k => .int .i32 (Pt k))) (h5 : Own0 w a5 N (fun k => .bool (An k)))
    (hM : ∀ k, k < N → M k < n) (hCl : ∀ k, k < N → W32 (Cl k)) (hPt : ∀ k, k < N → W32 (Pt k)) :
    Calls Trym.prog 18 #[.int .i64 n, .slice ea C C, .slice a2 N N, .slice a3 N N, .slice a4 N N, .slice a5 N N] w fun e w' => ∃ (S : Sh) (f : Bool → Nat → Int → Value), e = .returned (.pointer (some ⟨S.G, 0, none⟩)) ∧ S.nm = n ∧ S.el = .slice ea C C ∧
      Giv S w.heap.size w' N f (lTo M Cl Pt An N) (ldTo M N) ∧ Below w.heap.size w w' := by
  have HE := hide hE
  have H2 := hide h2
  have H3 := hide h3
  have H4 := hide h4
  have H5 := hide h5
  have HM := hide hM
  have HCl := hide hCl
  have HPt := hide hPt
  clear hE h2 h3 h4 h5 hM hCl hPt
  go_enter Trym.func18, Trym.ntmps18
  go_wp2_with fail
  refine (zznew_any n C C ea _ hn hC HE.out).mono ?_
  rintro e w1 ⟨S, rfl, hnm, hel, hg, hb⟩
  have HNM := hide hnm
  have HEL := hide hel
  have HG := hide hg
  have HB := hide hb
  clear hnm hel hg hb
  go_wp2_with fail
  go_loopw [14] (fun i wr => ∃ k : Nat, ∃ f : Bool → Nat → Int → Value, k ≤ N ∧ i = .int .i64 (k : Int) ∧ Hid (Giv S w.heap.size wr k f (lTo M Cl Pt An k) (ldTo M k)) ∧ Hid (Below w.heap.size w wr)) (fun i _ => (N - intOf i).toNat)
  case atStart => exact ⟨0, _, by omega, rfl, HG, HB⟩
  case round =>
    clear HG HB
    obtain ⟨k, f, hk, rfl, HG, HB⟩ := hrel
    by_cases hlt : k < N
    · obtain ⟨b2, rfl, c2⟩ := H2.out (by omega)
      obtain ⟨b3, rfl, c3⟩ := H3.out (by omega)
      obtain ⟨b4, rfl, c4⟩ := H4.out (by omega)
      obtain ⟨b5, rfl, c5⟩ := H5.out (by omega)
      have d2 : wr.cell? ⟨b2, k, none⟩ = some (.int .i64 (M k : Int)) := (HB.out.cell (cell_lt (c2 k hlt))).trans (c2 k hlt)
      have d3 : wr.cell? ⟨b3, k, none⟩ = some (.int .i32 (Cl k)) := (HB.out.cell (cell_lt (c3 k hlt))).trans (c3 k hlt)
      have d4 : wr.cell? ⟨b4, k, none⟩ = some (.int .i32 (Pt k)) := (HB.out.cell (cell_lt (c4 k hlt))).trans (c4 k hlt)
      have d5 : wr.cell? ⟨b5, k, none⟩ = some (.bool (An k)) := (HB.out.cell (cell_lt (c5 k hlt))).trans (c5 k hlt)
      have l2 := cell_lt (c2 k hlt)
      have l3 := cell_lt (c3 k hlt)
      have l4 := cell_lt (c4 k hlt)
      clear c2 c3 c4 c5
      have hkN : (k : Int) < (N : Int) := by omega
      have hk5 : k ≤ 500000 := by omega
      have hk0 : (0 : Int) ≤ (k : Int) := by omega
      have HMk : Hid (M k < S.nm) := by show _ < _; rw [HNM.out]; exact HM.out k hlt
      have HCk := hide (HCl.out k hlt)
      have HPk := hide (HPt.out k hlt)
      have hlk : lTo M Cl Pt An (k + 1) = updF (lTo M Cl Pt An k) (An k) (M k) (Cl k) (lTo M Cl Pt An k (An k) (M k) (Cl k) ++ [Pt k]) := rfl
      have hdk : ldTo M (k + 1) = updL (ldTo M k) (M k) (ldTo M k (M k) + 1) := rfl
      have HLK := hide hlk
      have HDK := hide hdk
      clear hlk hdk
      cases han : An k
      · rw [han] at d5
        rw [han] at HLK
        go_wp2_with fail
        go_region_held3 (fun w' => w'.cell? ⟨b2, k, none⟩ = some (.int .i64 (M k : Int)) ∧ w'.cell? ⟨b3, k, none⟩ = some (.int .i32 (Cl k)) ∧ w'.cell? ⟨b4, k, none⟩ = some (.int .i32 (Pt k)))
          (first
            | (go_split_ands
               exact ⟨by go_keep, by go_keep, by go_keep⟩)
            | (go_split_ands
               exact ⟨(HBn.out.cell l2).trans d2, (HBn.out.cell l3).trans d3, (HBn.out.cell l4).trans d4⟩))
          ((go_at_call 39; refine (keep_any (giv_drew HG.out) hk5 (M k) HMk.out (Cl k) (Pt k) HCk.out HPk.out).mono ?_; rintro e w2 ⟨rfl, f', hg', hb', _⟩; have HGn := hide hg'; have HBn := hide hb'; clear hg' hb'))
        go_wp2_with fail
        go_roundw
        case rel => exact ⟨k + 1, f', by omega, by go_num, (by rw [HLK.out, HDK.out]; exact HGn.out), HB.out.drew.trans HBn.out⟩
        case measure => simp [intOf]; omega
      · rw [han] at d5
        rw [han] at HLK
        go_wp2_with fail
        go_region_held3 (fun w' => w'.cell? ⟨b2, k, none⟩ = some (.int .i64 (M k : Int)) ∧ w'.cell? ⟨b3, k, none⟩ = some (.int .i32 (Cl k)) ∧ w'.cell? ⟨b4, k, none⟩ = some (.int .i32 (Pt k)))
          (first
            | (go_split_ands
               exact ⟨by go_keep, by go_keep, by go_keep⟩)
            | (go_split_ands
               exact ⟨(HBn.out.cell l2).trans d2, (HBn.out.cell l3).trans d3, (HBn.out.cell l4).trans d4⟩))
          ((go_at_call 30; refine (zzadd_any (giv_drew HG.out) hk5 (M k) HMk.out (Cl k) (Pt k) HCk.out HPk.out).mono ?_; rintro e w2 ⟨rfl, f', hg', hb', _⟩; have HGn := hide hg'; have HBn := hide hb'; clear hg' hb'))
        go_wp2_with fail
        go_roundw
        case rel => exact ⟨k + 1, f', by omega, by go_num, (by rw [HLK.out, HDK.out]; exact HGn.out), HB.out.drew.trans HBn.out⟩
        case measure => simp [intOf]; omega
    · have hkN : k = N := by omega
      subst hkN
      go_wp2
      go_ret
      exact ⟨S, f, rfl, HNM.out, HEL.out, HG.out, HB.out⟩

end Go.Proofs.Qxb6000857aMods.BuildW
