/-
  THE WALKS of (*giving).parts, ZZParts, ZZLoad, (*giving).take, ZZTake (41, 27, 29, 43, 31).
-/
import Derived.Test.Qxb6000857aModsGiv
namespace Go.Proofs.Qxb6000857aMods.PartsW
open Go.RowKit MapM AddW GivW
set_option linter.unusedVariables false

variable {S : Sh} {B cnt : Nat} {w : World} {f : Bool → Nat → Int → Value} {l : Bool → Nat → Int → List Int} {ld : Nat → Int}

theorem w32 {c : Nat} (h : c ≤ 100000) : W32 (c : Int) := by
  show (Lit.int .i32 (c : Int)).wf = true
  simp [Lit.wf, IntKind.min, IntKind.max, IntKind.signed, IntKind.bits]; omega

/-- append(dst, src...), src a row of int32 or nil. -/
theorem append_run (w : World) (base n : Nat) (xs : List Value) (pv v : Value) (zs : List Int) (B : Nat) (ho : w.ownsRow base 21 1 pv n xs) (hv : w.ownsInts B 21 .i32 v zs) (hb : base ≤ w.heap.size) (hn : n + zs.length ≤ 1000000000) :
    ∃ pv' w', (Builtin.append_ #[24, 24] 24 #[pv, v]).run Trym.prog w = .ok pv' w' ∧ w'.ownsRow base 21 1 pv' (n + zs.length) (xs ++ zs.map (Value.int .i32)) ∧ w.grownBy w' pv.ownBlock := by
  obtain ⟨i0, hi0, hz0, hz1, hz2⟩ := info_parts info21
  rcases hv.1.2 with ⟨rfl, h0⟩ | ⟨g, cap, cur, rfl, _, hh, hnc, _⟩
  · have e : zs = [] := List.length_eq_zero_iff.1 h0
    subst e
    exact ⟨pv, w, run_append_owned_none (P := Trym.prog) (w := w) base 24 24 21 i0 1 Trym.underlying24 hi0 pv n xs ho, by simpa using ho, ⟨rfl, rfl, rfl, Nat.le_refl _, fun _ _ _ => rfl⟩⟩
  · obtain ⟨pv', w', h1, h2, h3, _⟩ := run_append_own (P := Trym.prog) w base 24 24 21 i0 (.int .i32 0) 1 4 Trym.underlying24 hi0 hz0 hz1 hz2 rfl (by decide) pv n xs ho ⟨g, 0, none⟩ zs.length cap (zs.map (Value.int .i32)) (by simp) (hv.1.cells (g := g) rfl)
      (by intro u hu; simp at hu; obtain ⟨a, _, rfl⟩ := hu; rfl) (by unfold maxLen; omega) (by omega) hb
    exact ⟨pv', w', h1, h2, h3⟩

/-- append at the operation, by its run. -/
theorem wpList_append_eq {P : Program} {w : World} {ops : Array Oper} {rest : List Oper} {o : Oper} {a : Act} {Q : Exit → Act → World → Prop} (hgd : o.guard = none) (s x : Operand) (t ty : TypeId)
    (ho : o.op = .call { callee := .builtin .append, args := #[s, x], argTypes := #[t, t] }) (hty : o.type = ty) (v u v' : Value) (w' : World) (hs : a.eval s = v) (hx : a.eval x = u)
    (hr : (Builtin.append_ #[t, t] ty #[v, u]).run P w = .ok v' w') (h : wpList P ops Q rest (a.put o.dst v') w') : wpList P ops Q (o :: rest) a w := by
  refine wpList_plain hgd fun K hK => ?_
  subst hty
  unfold Oper.wp execOp
  simp only [ho, resolve, invoke, builtin, Sem.run_bind, Sem.run_pure, Result.andThen_ok, List.map_toArray, List.map_cons, List.map_nil, hs, hx, hr]
  exact hK _ _ h

/-- The parts of the first k classes. -/
def partsTo (l0 l1 : Int → List Int) : Nat → List Int
  | 0 => []
  | k + 1 => partsTo l0 l1 k ++ l0 (k : Int) ++ l1 (k : Int)

theorem partsTo_len (l0 l1 : Int → List Int) (m : Nat) (k : Nat) (h0 : ∀ c, c < k → (l0 (c : Nat)).length ≤ m) (h1 : ∀ c, c < k → (l1 (c : Nat)).length ≤ m) : (partsTo l0 l1 k).length ≤ 2 * m * k := by
  induction k with
  | zero => simp [partsTo]
  | succ k ih =>
    have := ih (fun c hc => h0 c (by omega)) (fun c hc => h1 c (by omega))
    have a := h0 k (by omega)
    have b := h1 k (by omega)
    simp only [partsTo, List.length_append]
    rw [Nat.mul_add]; omega

set_option maxHeartbeats 1000000 in
theorem parts_any (h : Giv S B w cnt f l ld) (C ecap : Nat) (ea : Option Addr) (hel : S.el = .slice ea C ecap) (hC : C ≤ 4096) (hcnt : cnt ≤ 10000) (i : Nat) (hi : i < S.nm) :
    Calls Trym.prog 41 #[.pointer (some ⟨S.G, 0, none⟩), .int .i64 i] w fun e w' => ∃ v, e = .returned v ∧ w'.ownsInts w.heap.size 21 .i32 v (partsTo (l false i) (l true i) C) ∧ Below w.heap.size w w' := by
  have HG : Hid (Giv S B w cnt f l ld) := h
  have g0 : w.cell? ⟨S.G, 0, none⟩ = some (.slice ea C ecap) := by rw [h.gcell, ← hel]; rfl
  have hin : (i : Int) < (S.nm : Int) := by omega
  have hlen : ∀ k, k ≤ C → (partsTo (l false i) (l true i) k).length ≤ 2 * cnt * k := fun k hk => partsTo_len _ _ cnt k (fun c hc => HG.out.short false i c hi (w32 (by omega))) (fun c hc => HG.out.short true i c hi (w32 (by omega)))
  have HLEN := hide hlen
  clear h hlen
  go_enter Trym.func41, Trym.ntmps41
  go_wp2
  go_loopw [5, 12] (fun v k wr => ∃ j : Nat, j ≤ C ∧ k = .int .i64 (j : Int) ∧ Hid (wr.ownsInts w.heap.size 21 .i32 v (partsTo (l false i) (l true i) j)) ∧ Hid (Below w.heap.size w wr)) (fun _ k _ => (C - intOf k).toNat)
  case atStart => exact ⟨0, by omega, rfl, World.ownsInts_nil _ _ _ _, Below.refl _ _⟩
  case round =>
    obtain ⟨j, hj, rfl, HO, HB⟩ := hrel
    by_cases hlt : j < C
    · have hjw : W32 (j : Int) := w32 (by omega)
      have hl1 := HLEN.out j (by omega)
      have hl2 := HLEN.out (j + 1) (by omega)
      have hmul : 2 * cnt * (j + 1) ≤ 2 * 10000 * 4096 := Nat.mul_le_mul (by omega) (by omega)
      have hpl : (partsTo (l false i) (l true i) (j + 1)).length = (partsTo (l false i) (l true i) j).length + (l false i j).length + (l true i j).length := by simp [partsTo]; omega
      have G1 := HG.out.below HB.out
      have a2 : wr.cell? ⟨S.G, 2, none⟩ = some (.slice (some ⟨S.RB false, 0, none⟩) S.nm S.nm) := by rw [G1.gcell]; rfl
      have a3 : wr.cell? ⟨S.RB false, i, none⟩ = some (.map (some (S.mb false i))) := (G1.rows false).cell hi
      have a4 := (G1.maps false i hi).lookup hjw
      obtain ⟨pv1, w1, hr1, o1, g1⟩ := append_run wr w.heap.size _ _ _ (f false i j) (l false i j) B HO.out.1 (G1.owns false i j hi hjw) HB.out.size (by omega)
      have B1 : Below w.heap.size w w1 := HB.out.grown g1 HB.out.size (fun k hk => (HO.out.1.lt k hk).1)
      have G2 := HG.out.below B1
      have b2 : w1.cell? ⟨S.G, 3, none⟩ = some (.slice (some ⟨S.RB true, 0, none⟩) S.nm S.nm) := by rw [G2.gcell]; rfl
      have b3 : w1.cell? ⟨S.RB true, i, none⟩ = some (.map (some (S.mb true i))) := (G2.rows true).cell hi
      have b4 := (G2.maps true i hi).lookup hjw
      obtain ⟨pv2, w2, hr2, o2, g2⟩ := append_run w1 w.heap.size _ _ _ (f true i j) (l true i j) B o1 (G2.owns true i j hi hjw) B1.size (by omega)
      have B2 : Below w.heap.size w w2 := B1.grown g2 B1.size (fun k hk => (o1.lt k hk).1)
      have HO2 : Hid (w2.ownsInts w.heap.size 21 .i32 pv2 (partsTo (l false i) (l true i) (j + 1))) := by
        refine ⟨?_, fun z hz => ?_⟩
        · rw [hpl]; simpa [partsTo] using o2
        · simp only [partsTo, List.mem_append] at hz
          rcases hz with (hz | hz) | hz
          · exact HO.out.2 z hz
          · exact (G1.owns false i j hi hjw).2 z hz
          · exact (G2.owns true i j hi hjw).2 z hz
      have HB2 := hide B2
      clear hjw hl1 hl2 hmul hpl G1 G2 o1 o2 g1 g2 B1 B2 HO HB
      generalize f false i (j : Int) = v0 at a4 hr1
      generalize f true i (j : Int) = v1 at b4 hr2
      go_wp2_with (first | (at_builtin; refine wpList_append_eq rfl (.tmp 15) (.tmp 25) 24 24 rfl rfl _ _ _ _ rfl rfl hr1 ?_) | (at_builtin; refine wpList_append_eq rfl (.tmp 27) (.tmp 37) 24 24 rfl rfl _ _ _ _ rfl rfl hr2 ?_))
      go_roundw
      case rel => exact ⟨j + 1, by omega, by go_num, HO2, HB2⟩
      case measure => simp [intOf]; omega
    · have hjC : j = C := by omega
      subst hjC
      go_wp2
      go_ret
      exact ⟨_, rfl, HO.out, HB.out⟩

theorem zzparts_any (h : Giv S B w cnt f l ld) (C ecap : Nat) (ea : Option Addr) (hel : S.el = .slice ea C ecap) (hC : C ≤ 4096) (hcnt : cnt ≤ 10000) (i : Nat) (hi : i < S.nm) :
    Calls Trym.prog 27 #[.pointer (some ⟨S.G, 0, none⟩), .int .i64 i] w fun e w' => ∃ v, e = .returned v ∧ w'.ownsInts w.heap.size 21 .i32 v (partsTo (l false i) (l true i) C) ∧ Below w.heap.size w w' := by
  have H := hide h
  have HEL := hide hel
  clear h hel
  go_enter Trym.func27, Trym.ntmps27
  go_wp2_with fail
  refine (parts_any H.out C ecap ea HEL.out hC hcnt i hi).mono ?_
  rintro e w' ⟨v, rfl, h1, h2⟩
  have H1 := hide h1
  have H2 := hide h2
  clear h1 h2
  go_wp2
  go_ret
  exact ⟨v, rfl, H1.out, H2.out⟩

theorem load_any (h : Giv S B w cnt f l ld) (i : Nat) (hi : i < S.nm) :
    Calls Trym.prog 29 #[.pointer (some ⟨S.G, 0, none⟩), .int .i64 i] w fun e w' => e = .returned (.int .i64 (ld i)) ∧ w = w' := by
  have a1 : w.cell? ⟨S.G, 4, none⟩ = some (.slice (some ⟨S.LB, 0, none⟩) S.nm S.nm) := by rw [h.gcell]; rfl
  have a2 : w.cell? ⟨S.LB, i, none⟩ = some (.int .i64 (ld i)) := h.loads.cell hi
  clear h
  go_enter Trym.func29, Trym.ntmps29
  go_wp2
  go_ret
  exact ⟨rfl, rfl⟩

/-- What a slice of one part more, cut by one, owns. -/
theorem ints_cut {v : Value} {zs : List Int} {p : Int} (h : w.ownsInts B 21 .i32 v (zs ++ [p])) : ∃ g cap, v = .slice (some ⟨g, 0, none⟩) (zs.length + 1) cap ∧ w.cell? ⟨g, zs.length, none⟩ = some (.int .i32 p) ∧ zs.length + 1 ≤ cap ∧
    w.ownsInts B 21 .i32 (.slice (some ⟨g, 0, none⟩) zs.length cap) zs := by
  obtain ⟨⟨h1, h2⟩, h3⟩ := h
  rcases h2 with ⟨_, h0⟩ | ⟨g, cap, cur, hv, hb, hh, hn, hc, hs, ht⟩
  · simp at h0
  · have hl : (zs ++ [p]).length = zs.length + 1 := by simp
    rw [hl] at hv hn ht
    simp only [Nat.mul_one] at ht hs
    refine ⟨g, cap, hv, ?_, hn, ⟨by simp, .inr ⟨g, cap, cur, rfl, hb, hh, by omega, hc, by simpa using hs, ?_⟩⟩, fun z hz => h3 z (by simp [hz])⟩
    · have e : (cur.toList.take (zs.length + 1))[zs.length]? = some (.int .i32 p) := by rw [ht]; simp
      rw [List.getElem?_take, if_pos (by omega)] at e
      simp [World.cell?, hh]; simpa using e
    · have e := congrArg (List.take zs.length) ht
      rw [List.take_take, Nat.min_eq_left (by omega)] at e
      simp only [Nat.mul_one]
      rw [e]; simp

theorem grown_refl (w : World) (row : Option Nat) : w.grownBy w row := ⟨rfl, rfl, rfl, Nat.le_refl _, fun _ _ _ => rfl⟩

set_option maxHeartbeats 1000000 in
theorem take_any (h : Giv S B w cnt f l ld) (hcnt : cnt ≤ 500000) (i : Nat) (hi : i < S.nm) (c p : Int) (zs : List Int) (hc : W32 c) (hl : l true i c = zs ++ [p]) (hld1 : 1 ≤ ld i) :
    Calls Trym.prog 43 #[.pointer (some ⟨S.G, 0, none⟩), .int .i64 i, .int .i32 c] w fun e w' => e = .returned (.int .i32 p) ∧
      ∃ f', Giv S B w' (cnt + 1) f' (updF l true i c zs) (updL ld i (ld i - 1)) ∧ Below B w w' ∧ Fr S f f' w w' := by
  have hld := h.ldb i hi
  have hsh := h.short true i c hi hc
  rw [hl] at hsh
  simp at hsh
  have hin : (i : Int) < (S.nm : Int) := by omega
  have a3 : w.cell? ⟨S.G, 3, none⟩ = some (.slice (some ⟨S.RB true, 0, none⟩) S.nm S.nm) := by rw [h.gcell]; rfl
  have a4 : w.cell? ⟨S.RB true, i, none⟩ = some (.map (some (S.mb true i))) := (h.rows true).cell hi
  have ho := h.owns true i c hi hc
  rw [hl] at ho
  obtain ⟨g, cap, hv, hcell, hcap, ho'⟩ := ints_cut ho
  have a5 := (h.maps true i hi).lookup hc
  rw [hv] at a5
  obtain ⟨w2, hup, m2, g2⟩ := (h.maps true i hi).update hc (.slice (some ⟨g, 0, none⟩) zs.length cap) (by unfold maxLen; omega)
  have hfar : ∀ b, b < w.heap.size → b ≠ S.mb true i → w2.heap[b]? = w.heap[b]? := fun b h1 h2 => g2.block b h1 (by simpa using h2)
  have b4 : w2.cell? ⟨S.G, 4, none⟩ = some (.slice (some ⟨S.LB, 0, none⟩) S.nm S.nm) := by
    rw [World.cell?_of_block (w := w) (hfar _ (Array.getElem?_eq_some_iff.1 h.g).1 (h.GneM hi)), h.gcell]; rfl
  have b5 : w2.cell? ⟨S.LB, i, none⟩ = some (.int .i64 (ld i)) := by
    rw [World.cell?_of_block (w := w) (hfar _ h.loads.lt (h.LneM hi))]; exact h.loads.cell hi
  have b6 : w2.frozen? ⟨S.LB, i, none⟩ = false := by
    rw [World.frozen?_of_block (w := w) (hfar _ h.loads.lt (h.LneM hi))]; exact h.loads.frozen i
  have FRM := hide (h.step_fr (q := ld i - 1) hi hc (grown_refl w _) (v := .slice (some ⟨g, 0, none⟩) zs.length cap) (.inl (by rw [hv]; rfl)) g2)
  have FIN := hide (h.step hi hc (grown_refl w _) ho' (by omega) (.inl (by rw [hv]; rfl)) m2 g2 (show 0 ≤ ld i - 1 by omega) (show ld i - 1 ≤ cnt + 1 by omega))
  clear h hl ho ho' m2 g2 hfar hv hc
  go_enter Trym.func43, Trym.ntmps43
  go_wp2
  go_ret
  exact ⟨rfl, _, FIN.out.1, FIN.out.2, FRM.out⟩

theorem zztake_any (h : Giv S B w cnt f l ld) (hcnt : cnt ≤ 500000) (i : Nat) (hi : i < S.nm) (c p : Int) (zs : List Int) (hc : W32 c) (hl : l true i c = zs ++ [p]) (hld1 : 1 ≤ ld i) :
    Calls Trym.prog 31 #[.pointer (some ⟨S.G, 0, none⟩), .int .i64 i, .int .i32 c] w fun e w' => e = .returned (.int .i32 p) ∧
      ∃ f', Giv S B w' (cnt + 1) f' (updF l true i c zs) (updL ld i (ld i - 1)) ∧ Below B w w' ∧ Fr S f f' w w' := by
  have H := hide h
  have HL := hide hl
  have HC := hide hc
  have HLD := hide hld1
  clear h hl hc hld1
  go_enter Trym.func31, Trym.ntmps31
  go_wp2_with fail
  refine (take_any H.out hcnt i hi c p zs HC.out HL.out HLD.out).mono ?_
  rintro e w' ⟨rfl, f', h1, h2, h3⟩
  have H1 := hide h1
  have H2 := hide h2
  have H3 := hide h3
  clear h1 h2 h3
  go_wp2
  go_ret
  exact ⟨rfl, f', H1.out, H2.out, H3.out⟩

end Go.Proofs.Qxb6000857aMods.PartsW
