/-
  THE SECOND LAW's WALK.
-/
import Derived.Test.Qxb6618405aTop1
namespace Go.Proofs.Qxb6618405a
open Go.RowKit
set_option linter.unusedVariables false

theorem bytes3_yes (a0 a2 a4 : Option Addr) (n0 c0 n2 c2 n4 c4 : Nat) (x0 x1 x2 x3 x4 y0 y1 y2 y3 y4 u0 u1 u2 u3 u4 : Int) (w : World) (h0 : n0 ≤ 1048576) (h2 : n2 ≤ 1048576) (h4 : n4 ≤ 1048576) (hs : n0 + n2 + n4 ≤ 1048576) :
    Calls Try.prog 12 #[.slice a0 n0 c0, .agg #[.int .i64 x0, .int .i64 x1, .int .i64 x2, .int .i64 x3, .int .i64 x4], .slice a2 n2 c2, .agg #[.int .i64 y0, .int .i64 y1, .int .i64 y2, .int .i64 y3, .int .i64 y4], .slice a4 n4 c4, .agg #[.int .i64 u0, .int .i64 u1, .int .i64 u2, .int .i64 u3, .int .i64 u4]] w
      fun e w' => e = .returned (.bool true) ∧ w' = ((w.alloc (.cells #[.int .i64 x0, .int .i64 x1, .int .i64 x2, .int .i64 x3, .int .i64 x4] 23)).alloc (.cells #[.int .i64 y0, .int .i64 y1, .int .i64 y2, .int .i64 y3, .int .i64 y4] 23)).alloc (.cells #[.int .i64 u0, .int .i64 u1, .int .i64 u2, .int .i64 u3, .int .i64 u4] 23) := by
  go_enter Try.func12, Try.ntmps12
  go_wp2
  go_ret
  exact ⟨rfl, rfl⟩

theorem bytes3_no (a0 a2 a4 : Option Addr) (n0 c0 n2 c2 n4 c4 : Nat) (x0 x1 x2 x3 x4 y0 y1 y2 y3 y4 u0 u1 u2 u3 u4 : Int) (w : World) (hs : ¬ n0 + n2 + n4 ≤ 1048576) :
    Calls Try.prog 12 #[.slice a0 n0 c0, .agg #[.int .i64 x0, .int .i64 x1, .int .i64 x2, .int .i64 x3, .int .i64 x4], .slice a2 n2 c2, .agg #[.int .i64 y0, .int .i64 y1, .int .i64 y2, .int .i64 y3, .int .i64 y4], .slice a4 n4 c4, .agg #[.int .i64 u0, .int .i64 u1, .int .i64 u2, .int .i64 u3, .int .i64 u4]] w
      fun e w' => e = .returned (.bool false) ∧ w' = ((w.alloc (.cells #[.int .i64 x0, .int .i64 x1, .int .i64 x2, .int .i64 x3, .int .i64 x4] 23)).alloc (.cells #[.int .i64 y0, .int .i64 y1, .int .i64 y2, .int .i64 y3, .int .i64 y4] 23)).alloc (.cells #[.int .i64 u0, .int .i64 u1, .int .i64 u2, .int .i64 u3, .int .i64 u4] 23) := by
  by_cases h0 : 1048576 < n0
  · go_enter Try.func12, Try.ntmps12
    go_wp2
    go_ret
    exact ⟨rfl, rfl⟩
  · by_cases h2 : 1048576 < n2
    · go_enter Try.func12, Try.ntmps12
      go_wp2
      go_ret
      exact ⟨rfl, rfl⟩
    · by_cases h02 : 1048576 < n0 + n2
      · go_enter Try.func12, Try.ntmps12
        go_wp2
        go_ret
        exact ⟨rfl, rfl⟩
      · by_cases h4 : 1048576 < n4
        · go_enter Try.func12, Try.ntmps12
          go_wp2
          go_ret
          exact ⟨rfl, rfl⟩
        · go_enter Try.func12, Try.ntmps12
          go_wp2
          go_ret
          exact ⟨rfl, rfl⟩

/-- The three arrays' boxes; nothing old has turned. -/
structure Base3 (w : World) (x0 x1 x2 x3 x4 y0 y1 y2 y3 y4 u0 u1 u2 u3 u4 : Int) (W : World) : Prop where
  bel : Below w.heap.size w W
  ba : W.heap[w.heap.size]? = some (.cells #[.int .i64 x0, .int .i64 x1, .int .i64 x2, .int .i64 x3, .int .i64 x4] 23 (0, 0))
  bb : W.heap[w.heap.size + 1]? = some (.cells #[.int .i64 y0, .int .i64 y1, .int .i64 y2, .int .i64 y3, .int .i64 y4] 23 (0, 0))
  bc : W.heap[w.heap.size + 2]? = some (.cells #[.int .i64 u0, .int .i64 u1, .int .i64 u2, .int .i64 u3, .int .i64 u4] 23 (0, 0))

theorem Base3.step {w : World} {x0 x1 x2 x3 x4 y0 y1 y2 y3 y4 u0 u1 u2 u3 u4 : Int} {W W' : World} (h : Base3 w x0 x1 x2 x3 x4 y0 y1 y2 y3 y4 u0 u1 u2 u3 u4 W) (hb : Below W.heap.size W W') : Base3 w x0 x1 x2 x3 x4 y0 y1 y2 y3 y4 u0 u1 u2 u3 u4 W' :=
  ⟨h.bel.trans (hb.mono h.bel.size), below_heap hb h.ba (lt_of_block h.ba), below_heap hb h.bb (lt_of_block h.bb), below_heap hb h.bc (lt_of_block h.bc)⟩

theorem base6 (w : World) (x0 x1 x2 x3 x4 y0 y1 y2 y3 y4 u0 u1 u2 u3 u4 : Int) (C D E : Obj) :
    Base3 w x0 x1 x2 x3 x4 y0 y1 y2 y3 y4 u0 u1 u2 u3 u4 (((((w.alloc (.cells #[.int .i64 x0, .int .i64 x1, .int .i64 x2, .int .i64 x3, .int .i64 x4] 23)).alloc (.cells #[.int .i64 y0, .int .i64 y1, .int .i64 y2, .int .i64 y3, .int .i64 y4] 23)).alloc (.cells #[.int .i64 u0, .int .i64 u1, .int .i64 u2, .int .i64 u3, .int .i64 u4] 23)).alloc C).alloc D |>.alloc E) := by
  have s1 : (w.alloc (.cells #[.int .i64 x0, .int .i64 x1, .int .i64 x2, .int .i64 x3, .int .i64 x4] 23)).heap.size = w.heap.size + 1 := by simp
  generalize hA : w.alloc (.cells #[.int .i64 x0, .int .i64 x1, .int .i64 x2, .int .i64 x3, .int .i64 x4] 23) = wa at *
  have b1 : Below w.heap.size w wa := hA ▸ (Below.refl _ w).alloc (Nat.le_refl _) _
  have a1 : wa.heap[w.heap.size]? = some (.cells #[.int .i64 x0, .int .i64 x1, .int .i64 x2, .int .i64 x3, .int .i64 x4] 23 (0, 0)) := hA ▸ heap_alloc_new w _
  clear hA
  have s2 : (wa.alloc (.cells #[.int .i64 y0, .int .i64 y1, .int .i64 y2, .int .i64 y3, .int .i64 y4] 23)).heap.size = w.heap.size + 2 := by simp [s1]
  have a2 := heap_alloc_new wa (.cells #[.int .i64 y0, .int .i64 y1, .int .i64 y2, .int .i64 y3, .int .i64 y4] 23)
  rw [s1] at a2
  have b2 : Below wa.heap.size wa (wa.alloc (.cells #[.int .i64 y0, .int .i64 y1, .int .i64 y2, .int .i64 y3, .int .i64 y4] 23)) := (Below.refl _ wa).alloc (Nat.le_refl _) _
  generalize wa.alloc (.cells #[.int .i64 y0, .int .i64 y1, .int .i64 y2, .int .i64 y3, .int .i64 y4] 23) = wb at *
  have a3 := heap_alloc_new wb (.cells #[.int .i64 u0, .int .i64 u1, .int .i64 u2, .int .i64 u3, .int .i64 u4] 23)
  rw [s2] at a3
  have b3 : Below wb.heap.size wb (wb.alloc (.cells #[.int .i64 u0, .int .i64 u1, .int .i64 u2, .int .i64 u3, .int .i64 u4] 23)) := (Below.refl _ wb).alloc (Nat.le_refl _) _
  have s3 : (wb.alloc (.cells #[.int .i64 u0, .int .i64 u1, .int .i64 u2, .int .i64 u3, .int .i64 u4] 23)).heap.size = w.heap.size + 3 := by simp [s2]
  generalize wb.alloc (.cells #[.int .i64 u0, .int .i64 u1, .int .i64 u2, .int .i64 u3, .int .i64 u4] 23) = wc at *
  have b4 : Below wc.heap.size wc (((wc.alloc C).alloc D).alloc E) := (((Below.refl _ wc).alloc (Nat.le_refl _) _).alloc (by simp) _).alloc (by simp; omega) _
  refine ⟨b1.trans ((b2.mono (by omega)).trans ((b3.mono (by omega)).trans (b4.mono (by omega)))), ?_, ?_, ?_⟩
  · exact below_heap b4 (below_heap b3 (below_heap b2 a1 (by omega)) (by omega)) (by omega)
  · exact below_heap b4 (below_heap b3 a2 (by omega)) (by omega)
  · exact below_heap b4 a3 (by omega)

set_option maxRecDepth 100000 in
set_option maxHeartbeats 8000000 in
theorem walk2 (a0 : Option Addr) (len0 cap0 : Nat) (z0 : List Int) (a2 : Option Addr) (len2 cap2 : Nat) (z2 : List Int) (a4 : Option Addr) (len4 cap4 : Nat) (z4 : List Int) (x0 x1 x2 x3 x4 y0 y1 y2 y3 y4 u0 u1 u2 u3 u4 : Int) (w : World) (w0 : IsRow .i64 w a0 len0 cap0 z0) (w2 : IsRow .i64 w a2 len2 cap2 z2) (w4 : IsRow .i64 w a4 len4 cap4 z4)
    (hl0 : len0 ≤ 32768) (hl2 : len2 ≤ 32768) (hl4 : len4 ≤ 32768) (hs : len0 + len2 + len4 ≤ 1048576) :
    Calls Try.prog 4 #[.slice a0 len0 cap0, .agg #[.int .i64 x0, .int .i64 x1, .int .i64 x2, .int .i64 x3, .int .i64 x4], .slice a2 len2 cap2, .agg #[.int .i64 y0, .int .i64 y1, .int .i64 y2, .int .i64 y3, .int .i64 y4], .slice a4 len4 cap4, .agg #[.int .i64 u0, .int .i64 u1, .int .i64 u2, .int .i64 u3, .int .i64 u4]] w fun e w' => e = .returned (.bool true) ∧ Below w.heap.size w w' := by
  obtain ⟨i0, hi, hz0, hz1, hz2⟩ := info_parts info3
  go_enter Try.func4, Try.ntmps4
  go_wp2_with (go_at_call 12; refine (bytes3_yes a0 a2 a4 len0 cap0 len2 cap2 len4 cap4 x0 x1 x2 x3 x4 y0 y1 y2 y3 y4 u0 u1 u2 u3 u4 _ (by omega) (by omega) (by omega) hs).mono ?_; rintro e w' ⟨rfl, rfl⟩)
  refine (clone_arg a0 len0 cap0 z0 w _ w0 (base6 w x0 x1 x2 x3 x4 y0 y1 y2 y3 y4 u0 u1 u2 u3 u4 _ _ _).bel (by omega)).mono ?_
  rintro e wA ⟨aA, cA, rfl, hoA0, hgA⟩
  have hBA := (base6 w x0 x1 x2 x3 x4 y0 y1 y2 y3 y4 u0 u1 u2 u3 u4 _ _ _).step (below_grown hgA)
  obtain ⟨bA, hoA⟩ : ∃ b, wA.ownsRow b 3 1 (.slice aA len0 cA) len0 (ints (z0.take len0)) := ⟨_, hoA0⟩
  clear hgA hoA0
  go_wp2_with fail
  refine (clone_arg a2 len2 cap2 z2 w _ w2 hBA.bel (by omega)).mono ?_
  rintro e wB ⟨aB, cB, rfl, hoB0, hgB⟩
  have hBB := hBA.step (below_grown hgB)
  obtain ⟨bB, hoB⟩ : ∃ b, wB.ownsRow b 3 1 (.slice aB len2 cB) len2 (ints (z2.take len2)) := ⟨_, hoB0⟩
  have hoA' := below_owns (below_grown hgB) hoA
  clear hgB hoB0 hoA hBA
  go_wp2_with fail
  refine (clone_arg a4 len4 cap4 z4 w _ w4 hBB.bel (by omega)).mono ?_
  rintro e wC ⟨aC, cC, rfl, hoC0, hgC⟩
  have hB := hBB.step (below_grown hgC)
  obtain ⟨bC, hoC⟩ : ∃ b, wC.ownsRow b 3 1 (.slice aC len4 cC) len4 (ints (z4.take len4)) := ⟨_, hoC0⟩
  have hoA := below_owns (below_grown hgC) hoA'
  have hoB' := below_owns (below_grown hgC) hoB
  clear hgC hoC0 hoA' hoB hBB
  have hx0 := (isRow_take w0).1
  have hx2 := (isRow_take w2).1
  have hx4 := (isRow_take w4).1
  have hr0 := (isRow_take w0).2
  have hr2 := (isRow_take w2).2
  obtain ⟨A, hA⟩ : ∃ A, A = z0.take len0 := ⟨_, rfl⟩
  obtain ⟨B, hBe⟩ : ∃ B, B = z2.take len2 := ⟨_, rfl⟩
  obtain ⟨C, hCe⟩ : ∃ C, C = z4.take len4 := ⟨_, rfl⟩
  rw [← hA] at hx0 hr0 hoA
  rw [← hBe] at hx2 hr2 hoB'
  rw [← hCe] at hx4 hoC
  have hAB : (sum2 A B).length ≤ 65536 := by rw [sum2_length]; omega
  have hBC : (sum2 B C).length ≤ 65536 := by rw [sum2_length]; omega
  clear w0 w2 w4 hA hBe hCe
  have hSP0 := five hB.ba
  go_wp2_with fail
  go_region_held3 (fun w' => w'.cell? ⟨w.heap.size, 0, none⟩ = some (.int .i64 x0) ∧ w'.cell? ⟨w.heap.size, 1, none⟩ = some (.int .i64 x1) ∧ w'.cell? ⟨w.heap.size, 2, none⟩ = some (.int .i64 x2) ∧ w'.cell? ⟨w.heap.size, 3, none⟩ = some (.int .i64 x3) ∧ w'.cell? ⟨w.heap.size, 4, none⟩ = some (.int .i64 x4))
    (first | assumption | (simp [*]; done))
    (first
      | (go_at_call 6; refine (clone_own aA len0 cA bA A _ hoA.drew hx0 (by omega)).mono ?_; rintro e w4 ⟨aX, cX, rfl, hoNP, hgNP⟩; have hBNP := hB.step (below_grown (grown_drew hgNP)); have hSNP := five hBNP.ba)
      | (go_at_call 7; refine (stats_own aX len0 cX _ A x0 x1 x2 x3 x4 _ hoNP hx0).mono ?_; rintro e w5 ⟨px, rfl, hstP, hgSP, hpP⟩; have hBSP := hBNP.step (below_grown hgSP); have hSSP := five hBSP.ba))
  have hTP : Below wC.heap.size wC w5 := (below_grown (grown_drew hgNP)).trans (below_grown' hgSP (grown_drew hgNP).size)
  have hTPs := (grown_drew hgNP).size
  have hoAw5 := below_owns hTP hoA
  have hoBw5 := below_owns hTP hoB'
  have hoCw5 := below_owns hTP hoC
  have hstw5 : St wC.heap.size w5 px (.slice aX len0 cX) A x0 x1 x2 x3 x4 := hstP
  have hpTP : wC.heap.size ≤ px := by omega
  have hBw5 := hB.step hTP
  clear hstP hgSP hBNP hSNP hSSP hgNP hoNP hpP hTPs hSP0 hBSP
  have hSQ0 := five hBw5.bb
  go_wp2_with fail
  go_region_held3 (fun w' => w'.cell? ⟨w.heap.size + 1, 0, none⟩ = some (.int .i64 y0) ∧ w'.cell? ⟨w.heap.size + 1, 1, none⟩ = some (.int .i64 y1) ∧ w'.cell? ⟨w.heap.size + 1, 2, none⟩ = some (.int .i64 y2) ∧ w'.cell? ⟨w.heap.size + 1, 3, none⟩ = some (.int .i64 y3) ∧ w'.cell? ⟨w.heap.size + 1, 4, none⟩ = some (.int .i64 y4))
    (first | assumption | (simp [*]; done))
    (first
      | (go_at_call 6; refine (clone_own aB len2 cB bB B _ hoBw5.drew hx2 (by omega)).mono ?_; rintro e w6 ⟨aY, cY, rfl, hoNQ, hgNQ⟩; have hBNQ := hBw5.step (below_grown (grown_drew hgNQ)); have hSNQ := five hBNQ.bb)
      | (go_at_call 7; refine (stats_own aY len2 cY _ B y0 y1 y2 y3 y4 _ hoNQ hx2).mono ?_; rintro e w7 ⟨qx, rfl, hstQ, hgSQ, hpQ⟩; have hBSQ := hBNQ.step (below_grown hgSQ); have hSSQ := five hBSQ.bb; have hkQ : Below w5.heap.size w5 w7 := (below_grown (grown_drew hgNQ)).trans (below_grown' hgSQ (grown_drew hgNQ).size); have hsxQ := below_st hkQ hstw5)
      | (go_at_call 8; refine (zmerge_any wC.heap.size w7 px qx _ A x0 x1 x2 x3 x4 _ _ B y0 y1 y2 y3 y4 hsxQ hstQ (fun k hk hv => by have h1 := (hstQ.own.lt k hk).1; have h2 := (hstw5.own.lt k hv).2; simp at h1; omega) (by omega) (by omega) (Nat.le_trans hTP.size hkQ.size)).mono ?_; rintro e w8 ⟨rfl, vx, hstw8, hkmQ, hatQ⟩; have hTw8 : Below wC.heap.size wC w8 := hTP.trans ((hkQ.mono hTP.size).trans (below_kept hkmQ hpTP hsxQ.own (Nat.le_refl _) (Nat.le_trans hTP.size hkQ.size))); have hBw8 := hB.step hTw8; have hSw8 := five hBw8.bb))
  have hoAw8 := below_owns hTw8 hoA
  have hoBw8 := below_owns hTw8 hoB'
  have hoCw8 := below_owns hTw8 hoC
  clear hkmQ hatQ hstQ hgSQ hpQ hBSQ hSSQ hkQ hsxQ hoNQ hgNQ hBNQ hSNQ hSQ0 hstw5 hoAw5 hoBw5 hoCw5 hBw5 hTP hSw8
  rw [mrg_full A B hr0] at hstw8
  have hSR0 := five hBw8.bc
  go_wp2_with fail
  go_region_held3 (fun w' => w'.cell? ⟨w.heap.size + 2, 0, none⟩ = some (.int .i64 u0) ∧ w'.cell? ⟨w.heap.size + 2, 1, none⟩ = some (.int .i64 u1) ∧ w'.cell? ⟨w.heap.size + 2, 2, none⟩ = some (.int .i64 u2) ∧ w'.cell? ⟨w.heap.size + 2, 3, none⟩ = some (.int .i64 u3) ∧ w'.cell? ⟨w.heap.size + 2, 4, none⟩ = some (.int .i64 u4))
    (first | assumption | (simp [*]; done))
    (first
      | (go_at_call 6; refine (clone_own aC len4 cC bC C _ hoCw8.drew hx4 (by omega)).mono ?_; rintro e w9 ⟨aY2, cY2, rfl, hoNR, hgNR⟩; have hBNR := hBw8.step (below_grown (grown_drew hgNR)); have hSNR := five hBNR.bc)
      | (go_at_call 7; refine (stats_own aY2 len4 cY2 _ C u0 u1 u2 u3 u4 _ hoNR hx4).mono ?_; rintro e w10 ⟨qx2, rfl, hstR, hgSR, hpR⟩; have hBSR := hBNR.step (below_grown hgSR); have hSSR := five hBSR.bc; have hkR : Below w8.heap.size w8 w10 := (below_grown (grown_drew hgNR)).trans (below_grown' hgSR (grown_drew hgNR).size); have hsxR := below_st hkR hstw8)
      | (go_at_call 8; refine (zmerge_any wC.heap.size w10 px qx2 _ (sum2 A B) (wrap64 (x0 + y0)) (wrap64 (x1 + y1)) (wrap64 (x2 + y2)) (wrap64 (x3 + y3)) (wrap64 (x4 + y4)) _ _ C u0 u1 u2 u3 u4 hsxR hstR (fun k hk hv => by have h1 := (hstR.own.lt k hk).1; have h2 := (hstw8.own.lt k hv).2; simp at h1; omega) (by omega) (by omega) (Nat.le_trans hTw8.size hkR.size)).mono ?_; rintro e w11 ⟨rfl, vx2, hstw11, hkmR, hatR⟩; have hTw11 : Below wC.heap.size wC w11 := hTw8.trans ((hkR.mono hTw8.size).trans (below_kept hkmR hpTP hsxR.own (Nat.le_refl _) (Nat.le_trans hTw8.size hkR.size))); have hBw11 := hB.step hTw11; have hSw11 := five hBw11.bc))
  have hoAw11 := below_owns hTw11 hoA
  have hoBw11 := below_owns hTw11 hoB'
  have hoCw11 := below_owns hTw11 hoC
  clear hkmR hatR hstR hgSR hpR hBSR hSSR hkR hsxR hoNR hgNR hBNR hSNR hSR0 hstw8 hoAw8 hoBw8 hoCw8 hBw8 hTw8 hSw11
  rw [mrg_full _ C (InR_sum2 A B)] at hstw11
  clear hpTP hoA hoB' hoC hB hTw11
  have hSU0 := five hBw11.bb
  go_wp2_with fail
  go_region_held3 (fun w' => w'.cell? ⟨w.heap.size + 1, 0, none⟩ = some (.int .i64 y0) ∧ w'.cell? ⟨w.heap.size + 1, 1, none⟩ = some (.int .i64 y1) ∧ w'.cell? ⟨w.heap.size + 1, 2, none⟩ = some (.int .i64 y2) ∧ w'.cell? ⟨w.heap.size + 1, 3, none⟩ = some (.int .i64 y3) ∧ w'.cell? ⟨w.heap.size + 1, 4, none⟩ = some (.int .i64 y4))
    (first | assumption | (simp [*]; done))
    (first
      | (go_at_call 6; refine (clone_own aB len2 cB bB B _ hoBw11.drew hx2 (by omega)).mono ?_; rintro e w12 ⟨aV, cV, rfl, hoNU, hgNU⟩; have hBNU := hBw11.step (below_grown (grown_drew hgNU)); have hSNU := five hBNU.bb)
      | (go_at_call 7; refine (stats_own aV len2 cV _ B y0 y1 y2 y3 y4 _ hoNU hx2).mono ?_; rintro e w13 ⟨py, rfl, hstU, hgSU, hpU⟩; have hBSU := hBNU.step (below_grown hgSU); have hSSU := five hBSU.bb))
  have hTU : Below w11.heap.size w11 w13 := (below_grown (grown_drew hgNU)).trans (below_grown' hgSU (grown_drew hgNU).size)
  have hTUs := (grown_drew hgNU).size
  have hoAw13 := below_owns hTU hoAw11
  have hoBw13 := below_owns hTU hoBw11
  have hoCw13 := below_owns hTU hoCw11
  have hstw13 : St w11.heap.size w13 py (.slice aV len2 cV) B y0 y1 y2 y3 y4 := hstU
  have hpTU : w11.heap.size ≤ py := by omega
  have hBw13 := hBw11.step hTU
  clear hstU hgSU hBNU hSNU hSSU hgNU hoNU hpU hTUs hSU0 hBSU
  have hsxw13 := below_st hTU hstw11
  have hSV0 := five hBw13.bc
  go_wp2_with fail
  go_region_held3 (fun w' => w'.cell? ⟨w.heap.size + 2, 0, none⟩ = some (.int .i64 u0) ∧ w'.cell? ⟨w.heap.size + 2, 1, none⟩ = some (.int .i64 u1) ∧ w'.cell? ⟨w.heap.size + 2, 2, none⟩ = some (.int .i64 u2) ∧ w'.cell? ⟨w.heap.size + 2, 3, none⟩ = some (.int .i64 u3) ∧ w'.cell? ⟨w.heap.size + 2, 4, none⟩ = some (.int .i64 u4))
    (first | assumption | (simp [*]; done))
    (first
      | (go_at_call 6; refine (clone_own aC len4 cC bC C _ hoCw13.drew hx4 (by omega)).mono ?_; rintro e w14 ⟨aV2, cV2, rfl, hoNV, hgNV⟩; have hBNV := hBw13.step (below_grown (grown_drew hgNV)); have hSNV := five hBNV.bc)
      | (go_at_call 7; refine (stats_own aV2 len4 cV2 _ C u0 u1 u2 u3 u4 _ hoNV hx4).mono ?_; rintro e w15 ⟨qy, rfl, hstV, hgSV, hpV⟩; have hBSV := hBNV.step (below_grown hgSV); have hSSV := five hBSV.bc; have hkV : Below w13.heap.size w13 w15 := (below_grown (grown_drew hgNV)).trans (below_grown' hgSV (grown_drew hgNV).size); have hsxV := below_st hkV hstw13)
      | (go_at_call 8; refine (zmerge_any w11.heap.size w15 py qy _ B y0 y1 y2 y3 y4 _ _ C u0 u1 u2 u3 u4 hsxV hstV (fun k hk hv => by have h1 := (hstV.own.lt k hk).1; have h2 := (hstw13.own.lt k hv).2; simp at h1; omega) (by omega) (by omega) (Nat.le_trans hTU.size hkV.size)).mono ?_; rintro e w16 ⟨rfl, vy, hstw16, hkmV, hatV⟩; have hTw16 : Below w11.heap.size w11 w16 := hTU.trans ((hkV.mono hTU.size).trans (below_kept hkmV hpTU hsxV.own (Nat.le_refl _) (Nat.le_trans hTU.size hkV.size))); have hBw16 := hBw11.step hTw16; have hSw16 := five hBw16.bc))
  have hoAw16 := below_owns hTw16 hoAw11
  have hoBw16 := below_owns hTw16 hoBw11
  have hoCw16 := below_owns hTw16 hoCw11
  clear hkmV hatV hstV hgSV hpV hBSV hSSV hkV hsxV hoNV hgNV hBNV hSNV hSV0 hstw13 hoAw13 hoBw13 hoCw13 hBw13 hTU hSw16
  rw [mrg_full B C hr2] at hstw16
  have hsxw16 := below_st hTw16 hstw11
  clear hsxw13 hstw11 hpTU hoAw11 hoBw11 hoCw11 hBw11 hTw16
  have hSZ0 := five hBw16.ba
  go_wp2_with fail
  go_region_held3 (fun w' => w'.cell? ⟨w.heap.size, 0, none⟩ = some (.int .i64 x0) ∧ w'.cell? ⟨w.heap.size, 1, none⟩ = some (.int .i64 x1) ∧ w'.cell? ⟨w.heap.size, 2, none⟩ = some (.int .i64 x2) ∧ w'.cell? ⟨w.heap.size, 3, none⟩ = some (.int .i64 x3) ∧ w'.cell? ⟨w.heap.size, 4, none⟩ = some (.int .i64 x4))
    (first | assumption | (simp [*]; done))
    (first
      | (go_at_call 6; refine (clone_own aA len0 cA bA A _ hoAw16.drew hx0 (by omega)).mono ?_; rintro e w17 ⟨aZ, cZ, rfl, hoNZ, hgNZ⟩; have hBNZ := hBw16.step (below_grown (grown_drew hgNZ)); have hSNZ := five hBNZ.ba)
      | (go_at_call 7; refine (stats_own aZ len0 cZ _ A x0 x1 x2 x3 x4 _ hoNZ hx0).mono ?_; rintro e w18 ⟨pz, rfl, hstZ, hgSZ, hpZ⟩; have hBSZ := hBNZ.step (below_grown hgSZ); have hSSZ := five hBSZ.ba))
  have hTZ : Below w16.heap.size w16 w18 := (below_grown (grown_drew hgNZ)).trans (below_grown' hgSZ (grown_drew hgNZ).size)
  have hTZs := (grown_drew hgNZ).size
  have hoAw18 := below_owns hTZ hoAw16
  have hoBw18 := below_owns hTZ hoBw16
  have hoCw18 := below_owns hTZ hoCw16
  have hstw18 : St w16.heap.size w18 pz (.slice aZ len0 cZ) A x0 x1 x2 x3 x4 := hstZ
  have hpTZ : w16.heap.size ≤ pz := by omega
  have hBw18 := hBw16.step hTZ
  clear hstZ hgSZ hBNZ hSNZ hSSZ hgNZ hoNZ hpZ hTZs hSZ0 hBSZ
  have hsxw18 := below_st hTZ hsxw16
  have hsyw18 := below_st hTZ hstw16
  go_wp2_with fail
  refine (zmerge_any w16.heap.size w18 pz py _ A x0 x1 x2 x3 x4 _ _ (sum2 B C) (wrap64 (y0 + u0)) (wrap64 (y1 + u1)) (wrap64 (y2 + u2)) (wrap64 (y3 + u3)) (wrap64 (y4 + u4)) hstw18 hsyw18 (fun k hk hv => by have h1 := (hstw16.own.lt k hk).2; have h2 := (hstw18.own.lt k hv).1; omega) (by omega) (by omega) hTZ.size).mono ?_
  rintro e w19 ⟨rfl, vz, hstw19, hkz, hatz⟩
  have hTw19 : Below w16.heap.size w16 w19 := hTZ.trans (below_kept hkz hpTZ hstw18.own (Nat.le_refl _) hTZ.size)
  have hBw19 := hBw16.step hTw19
  have hoAw19 := below_owns hTw19 hoAw16
  have hoBw19 := below_owns hTw19 hoBw16
  have hoCw19 := below_owns hTw19 hoCw16
  have hsxw19 := below_st hTw19 hsxw16
  rw [mrg_full A _ hr0, ← sum2_assoc, ← wrap_assoc x0, ← wrap_assoc x1, ← wrap_assoc x2, ← wrap_assoc x3, ← wrap_assoc x4] at hstw19
  clear hkz hatz hTw19 hstw18 hsxw18 hsyw18 hpTZ hTZ hoAw18 hoBw18 hoCw18 hBw18 hstw16 hsxw16 hoAw16 hoBw16 hoCw16 hBw16
  obtain ⟨aX, cX, hvx⟩ := row_form hsxw19.own
  subst hvx
  obtain ⟨aZ, cZ, hvz⟩ := row_form hstw19.own
  subst hvz
  obtain ⟨S, hSe⟩ : ∃ S, S = sum2 (sum2 A B) C := ⟨_, rfl⟩
  have HSl : Hid (S.length = max (max len0 len2) len4) := by show S.length = _; rw [hSe, sum2_length, sum2_length, hx0, hx2, hx4]
  have hSg : ∀ j, S.getD j 0 = wrap64 (wrap64 (A.getD j 0 + B.getD j 0) + C.getD j 0) := by rw [hSe]; intro j; rw [sum2_getD, sum2_getD]
  rw [← hSe] at hsxw19 hstw19
  clear hSe hAB hBC
  obtain ⟨s0, hs0⟩ : ∃ s, s = wrap64 (wrap64 (x0 + y0) + u0) := ⟨_, rfl⟩
  obtain ⟨s1, hs1⟩ : ∃ s, s = wrap64 (wrap64 (x1 + y1) + u1) := ⟨_, rfl⟩
  obtain ⟨s2, hs2⟩ : ∃ s, s = wrap64 (wrap64 (x2 + y2) + u2) := ⟨_, rfl⟩
  obtain ⟨s3, hs3⟩ : ∃ s, s = wrap64 (wrap64 (x3 + y3) + u3) := ⟨_, rfl⟩
  obtain ⟨s4, hs4⟩ : ∃ s, s = wrap64 (wrap64 (x4 + y4) + u4) := ⟨_, rfl⟩
  rw [← hs0, ← hs1, ← hs2, ← hs3, ← hs4] at hsxw19 hstw19
  have HP : Hid (∀ m, wrap64 (wrap64 (pick5 x0 x1 x2 x3 x4 m + pick5 y0 y1 y2 y3 y4 m) + pick5 u0 u1 u2 u3 u4 m) = pick5 s0 s1 s2 s3 s4 m) := by
    intro m
    rw [pick5_add, pick5_add, hs0, hs1, hs2, hs3, hs4]
  clear hs0 hs1 hs2 hs3 hs4
  go_wp2_with fail
  refine (fields_own w19 _ px aX S.length cX S s0 s1 s2 s3 s4 hsxw19).mono ?_
  rintro e w20 ⟨rfl, hg20⟩
  have hT20 := below_grown hg20
  have hsx20 := below_st hT20 hsxw19
  have hsz20 := below_st hT20 hstw19
  have hoA20 := below_owns hT20 hoAw19
  have hoB20 := below_owns hT20 hoBw19
  have hoC20 := below_owns hT20 hoCw19
  have hB20 := hBw19.step hT20
  clear hg20 hT20 hsxw19 hstw19 hoAw19 hoBw19 hoCw19 hBw19
  go_wp2_with fail
  have hal : ∀ O, Below w20.heap.size w20 (w20.alloc O) := fun O => (Below.refl _ w20).alloc (Nat.le_refl _) O
  refine (fields_own _ _ pz aZ S.length cZ S s0 s1 s2 s3 s4 (below_st (hal _) hsz20)).mono ?_
  rintro e w22 ⟨rfl, hg22⟩
  have hT22 := below_grown hg22
  have hbx := below_heap hT22 (heap_alloc_new w20 _) (by simp)
  have hsx22 := below_st hT22 (below_st (hal _) hsx20)
  have hsz22 := below_st hT22 (below_st (hal _) hsz20)
  have hoA22 := below_owns hT22 (below_owns (hal _) hoA20)
  have hoB22 := below_owns hT22 (below_owns (hal _) hoB20)
  have hoC22 := below_owns hT22 (below_owns (hal _) hoC20)
  have hB22 := (hB20.step (hal _)).step hT22
  have hbl := lt_of_block hbx
  clear hT22 hg22 hsx20 hsz20 hoA20 hoB20 hoC20 hB20 hal
  obtain ⟨bx, hbxe⟩ : ∃ b, b = w20.heap.size := ⟨_, rfl⟩
  rw [← hbxe] at hbx hbl ⊢
  clear hbxe
  obtain hcase | hcase | hcase | hcase : (len0 < len2 ∧ len2 < len4) ∨ (len0 < len2 ∧ ¬ len2 < len4) ∨ (¬ len0 < len2 ∧ len0 < len4) ∨ (¬ len0 < len2 ∧ ¬ len0 < len4) := by omega
  · obtain ⟨hc1, hc2⟩ := hcase
    have hn : S.length = len4 := by have := HSl.out; omega
    rw [hn] at hsx22 hsz22 ⊢
    go_wp2_with (at_make; refine wpList_make_full _ rfl _ _ 22 rfl (w22.heap.size + 1) 3 i0 (.int .i64 0) 1 Try.underlying22 hi hz0 hz1 _ _ _ _ len4 rfl rfl rfl rfl (by rw [hz2]; omega) (by unfold maxLen; omega) (by simp) ?_)
    intro w24 hown hgrow
    rw [(toList_madeCells_one (.int .i64 0) len4).trans (part_zero S len4).symm] at hown
    obtain ⟨w23, hw23⟩ : ∃ w', w' = w22.alloc (.cells #[.int .i64 s0, .int .i64 s1, .int .i64 s2, .int .i64 s3, .int .i64 s4] 23) := ⟨_, rfl⟩
    have hal22 : Below w22.heap.size w22 w23 := by rw [hw23]; exact (Below.refl _ w22).alloc (Nat.le_refl _) _
    have hz23 : w23.heap.size = w22.heap.size + 1 := by rw [hw23]; simp
    have hby : w23.heap[w22.heap.size]? = some (.cells #[.int .i64 s0, .int .i64 s1, .int .i64 s2, .int .i64 s3, .int .i64 s4] 23 (0, 0)) := by rw [hw23]; exact heap_alloc_new w22 _
    have hbx23 := below_heap hal22 hbx hbl
    have hsx23 := below_st hal22 hsx22
    have hsz23 := below_st hal22 hsz22
    have hoA23 := below_owns hal22 hoA22
    have hoB23 := below_owns hal22 hoB22
    have hoC23 := below_owns hal22 hoC22
    have hB23 := hB22.step hal22
    rw [← hw23] at hgrow
    obtain ⟨bY, hbY⟩ : ∃ b, b = w22.heap.size := ⟨_, rfl⟩
    rw [← hbY] at hown hz23 hby ⊢
    have hz : w23.heap.size ≤ bY + 1 := Nat.le_of_eq hz23
    clear hz23 hbY hw23 hal22 hbx hsx22 hsz22 hoA22 hoB22 hoC22 hB22 hbl
    go_wp2
    go_loopw [22] (fun i wr => ∃ k : Nat, k ≤ len4 ∧ i = .int .i64 k ∧ wr.ownsRow (bY + 1) 3 1 (.slice (some ⟨bY + 1, 0, none⟩) len4 len4) len4 (part S len4 k) ∧ w23.grownBy wr none) (fun i _ => len4 - (intOf i).toNat)
    case atStart => exact ⟨0, Nat.zero_le _, rfl, hown, hgrow⟩
    case round =>
      clear hown hgrow
      obtain ⟨k, hk, rfl, hown, hgrow⟩ := hrel
      by_cases hlt : k < len4
      · have hco : wr.cell? ⟨bY + 1, k, none⟩ = some (.int .i64 0) := (hown.cellAt k (by omega)).trans (part_get S len4 k hn hlt)
        have hfo := hown.frozenAt k
        have R := round_step hn hlt hz hown hgrow
        rw [hSg k] at R
        have hat1 := at_own aA len0 cA bA k A wr (below_owns (below_grown hgrow) hoA23) hx0
        have hat2 := at_own aB len2 cB bB k B wr (below_owns (below_grown hgrow) hoB23) hx2
        have hat3 := at_own aC len4 cC bC k C wr (below_owns (below_grown hgrow) hoC23) hx4
        obtain ⟨xa, hxa⟩ : ∃ x, A.getD k 0 = x := ⟨_, rfl⟩
        obtain ⟨xb, hxb⟩ : ∃ x, B.getD k 0 = x := ⟨_, rfl⟩
        obtain ⟨xc, hxc⟩ : ∃ x, C.getD k 0 = x := ⟨_, rfl⟩
        rw [hxa] at hat1 R
        rw [hxb] at hat2 R
        rw [hxc] at hat3 R
        have H1 : Hid (Calls Try.prog 10 #[.slice aA len0 cA, .int .i64 k] wr fun e w' => e = .returned (.int .i64 xa) ∧ w' = wr) := hat1
        have H2 : Hid (Calls Try.prog 10 #[.slice aB len2 cB, .int .i64 k] wr fun e w' => e = .returned (.int .i64 xb) ∧ w' = wr) := hat2
        have H3 : Hid (Calls Try.prog 10 #[.slice aC len4 cC, .int .i64 k] wr fun e w' => e = .returned (.int .i64 xc) ∧ w' = wr) := hat3
        have hlt' : (k : Int) < (len4 : Int) := by omega
        clear hat1 hat2 hat3 hxa hxb hxc hown hgrow hoA23 hoB23 hoC23 hB23 hsx23 hsz23 hby hbx23 hSg
        go_wp2_with fail
        refine H1.out.mono ?_
        rintro e w' ⟨rfl, hw'⟩
        subst hw'
        go_wp2_with fail
        refine H2.out.mono ?_
        rintro e w' ⟨rfl, hw'⟩
        subst hw'
        go_wp2_with fail
        refine H3.out.mono ?_
        rintro e w' ⟨rfl, hw'⟩
        subst hw'
        go_wp2
        go_roundw
        case rel => exact ⟨k + 1, by omega, by go_num, R.1, R.2⟩
        case measure => simp [intOf]; omega
      · have hkn : k = len4 := by omega
        subst hkn
        rw [part_full S k hn] at hown
        obtain ⟨wq, hwq⟩ : ∃ w', w' = wr := ⟨_, rfl⟩
        rw [← hwq] at hown hgrow ⊢
        have hal : ∀ O, Below wq.heap.size wq (wq.alloc O) := fun O => (Below.refl _ wq).alloc (Nat.le_refl _) O
        have hTq := below_grown hgrow
        have hby := below_heap hTq hby (lt_of_block hby)
        have hbx := below_heap hTq hbx23 (lt_of_block hbx23)
        have hsx := (below_st hTq hsx23).own
        have hsy := (below_st hTq hsz23).own
        have hBq := hB23.step hTq
        rw [hn] at hsx hsy
        clear hwq hgrow hTq hsx23 hsz23 hoA23 hoB23 hoC23 hB23 hbx23
        have hw0 : (wq.alloc (.cells #[.int .i64 0, .int .i64 0, .int .i64 0, .int .i64 0, .int .i64 0] 23)).heap[wq.heap.size]? = some (.cells (wfc s0 s1 s2 s3 s4 0) 23 (0, 0)) := heap_alloc_new wq _
        go_wp2
        go_loopw [24] (fun i wz => ∃ m : Nat, m ≤ 5 ∧ i = .int .i64 m ∧ wz.heap[wq.heap.size]? = some (.cells (wfc s0 s1 s2 s3 s4 m) 23 (0, 0)) ∧ Below wq.heap.size wq wz) (fun i _ => 5 - (intOf i).toNat)
        case atStart => exact ⟨0, by omega, rfl, hw0, hal _⟩
        case round =>
          clear hw0 hal
          obtain ⟨m, hm, rfl, hwf, hbel⟩ := hrel
          have hBz := hBq.step hbel
          by_cases hm5 : m < 5
          · have hca := five_at hBz.ba m hm5
            have hcb := five_at hBz.bb m hm5
            have hcc := five_at hBz.bc m hm5
            obtain ⟨xw, hcw⟩ := wfc_get s0 s1 s2 s3 s4 m m hm5
            rw [← cell_of_row _ _ _ _ _ _ hwf] at hcw
            have hfw := frozen_of_row _ _ m _ _ hwf
            have R := heap_setCell_same _ _ m _ _ (.int .i64 (pick5 s0 s1 s2 s3 s4 m)) hwf
            rw [wfc_set _ _ _ _ _ m hm5, ← HP.out m] at R
            obtain ⟨xa, hxa⟩ : ∃ x, pick5 x0 x1 x2 x3 x4 m = x := ⟨_, rfl⟩
            obtain ⟨xb, hxb⟩ : ∃ x, pick5 y0 y1 y2 y3 y4 m = x := ⟨_, rfl⟩
            obtain ⟨xc, hxc⟩ : ∃ x, pick5 u0 u1 u2 u3 u4 m = x := ⟨_, rfl⟩
            rw [hxa] at hca R
            rw [hxb] at hcb R
            rw [hxc] at hcc R
            have hm5' : (m : Int) < 5 := by omega
            clear hxa hxb hxc hwf hBz hsx hsy hby hbx hown hBq
            go_wp2
            go_region
            go_wp2
            go_roundw
            case rel => exact ⟨m + 1, by omega, by go_num, R, (hbel.setCell (p := ⟨wq.heap.size, m, none⟩) (Nat.le_refl _) _).drew⟩
            case measure => simp [intOf]; omega
          · have hm5e : m = 5 := by omega
            subst hm5e
            have hwf5 : wr.heap[wq.heap.size]? = some (.cells #[.int .i64 s0, .int .i64 s1, .int .i64 s2, .int .i64 s3, .int .i64 s4] 23 (0, 0)) := hwf
            have hby' := below_heap hbel hby (lt_of_block hby)
            have hbx' := below_heap hbel hbx (lt_of_block hbx)
            obtain ⟨d0, d1, d2, d3, d4⟩ := five hwf5
            obtain ⟨e0, e1, e2, e3, e4⟩ := five hbx'
            obtain ⟨g0, g1, g2, g3, g4⟩ := five hby'
            have hs1 := same_own aX (some ⟨bY + 1, 0, none⟩) k cX k _ _ S wr (below_owns hbel hsx) (below_owns hbel hown) (by omega) hn
            have hs2 := fun j => same_own aZ (some ⟨bY + 1, 0, none⟩) k cZ k _ _ S (wr.drewN j) (owns_drewN (below_owns hbel hsy) j) (owns_drewN (below_owns hbel hown) j) (by omega) hn
            have H1 : Hid (Calls Try.prog 11 #[.slice aX k cX, .slice (some ⟨bY + 1, 0, none⟩) k k] wr fun e w' => e = .returned (.bool true) ∧ ∃ m, w' = wr.drewN m) := hs1
            have H2 : Hid (∀ j, Calls Try.prog 11 #[.slice aZ k cZ, .slice (some ⟨bY + 1, 0, none⟩) k k] (wr.drewN j) fun e w' => e = .returned (.bool true) ∧ ∃ m, w' = (wr.drewN j).drewN m) := hs2
            have hq := eq5 s0 s1 s2 s3 s4
            have hgd := guard23
            have hfin := (hBq.step hbel).bel
            clear hs1 hs2 hwf hwf5 hby' hbx' hsx hsy hby hbx hown hBq hBz
            go_wp2_with fail
            refine H1.out.mono ?_
            rintro e w' ⟨rfl, m1, hw'⟩
            subst hw'
            go_wp2_with fail
            refine (H2.out m1).mono ?_
            rintro e w' ⟨rfl, m2, hw'⟩
            subst hw'
            go_wp2
            go_ret
            exact ⟨rfl, hfin.os, hfin.tape, hfin.output, hfin.size, hfin.block⟩
  · obtain ⟨hc1, hc2⟩ := hcase
    have hn : S.length = len2 := by have := HSl.out; omega
    rw [hn] at hsx22 hsz22 ⊢
    go_wp2_with (at_make; refine wpList_make_full _ rfl _ _ 22 rfl (w22.heap.size + 1) 3 i0 (.int .i64 0) 1 Try.underlying22 hi hz0 hz1 _ _ _ _ len2 rfl rfl rfl rfl (by rw [hz2]; omega) (by unfold maxLen; omega) (by simp) ?_)
    intro w24 hown hgrow
    rw [(toList_madeCells_one (.int .i64 0) len2).trans (part_zero S len2).symm] at hown
    obtain ⟨w23, hw23⟩ : ∃ w', w' = w22.alloc (.cells #[.int .i64 s0, .int .i64 s1, .int .i64 s2, .int .i64 s3, .int .i64 s4] 23) := ⟨_, rfl⟩
    have hal22 : Below w22.heap.size w22 w23 := by rw [hw23]; exact (Below.refl _ w22).alloc (Nat.le_refl _) _
    have hz23 : w23.heap.size = w22.heap.size + 1 := by rw [hw23]; simp
    have hby : w23.heap[w22.heap.size]? = some (.cells #[.int .i64 s0, .int .i64 s1, .int .i64 s2, .int .i64 s3, .int .i64 s4] 23 (0, 0)) := by rw [hw23]; exact heap_alloc_new w22 _
    have hbx23 := below_heap hal22 hbx hbl
    have hsx23 := below_st hal22 hsx22
    have hsz23 := below_st hal22 hsz22
    have hoA23 := below_owns hal22 hoA22
    have hoB23 := below_owns hal22 hoB22
    have hoC23 := below_owns hal22 hoC22
    have hB23 := hB22.step hal22
    rw [← hw23] at hgrow
    obtain ⟨bY, hbY⟩ : ∃ b, b = w22.heap.size := ⟨_, rfl⟩
    rw [← hbY] at hown hz23 hby ⊢
    have hz : w23.heap.size ≤ bY + 1 := Nat.le_of_eq hz23
    clear hz23 hbY hw23 hal22 hbx hsx22 hsz22 hoA22 hoB22 hoC22 hB22 hbl
    go_wp2
    go_loopw [22] (fun i wr => ∃ k : Nat, k ≤ len2 ∧ i = .int .i64 k ∧ wr.ownsRow (bY + 1) 3 1 (.slice (some ⟨bY + 1, 0, none⟩) len2 len2) len2 (part S len2 k) ∧ w23.grownBy wr none) (fun i _ => len2 - (intOf i).toNat)
    case atStart => exact ⟨0, Nat.zero_le _, rfl, hown, hgrow⟩
    case round =>
      clear hown hgrow
      obtain ⟨k, hk, rfl, hown, hgrow⟩ := hrel
      by_cases hlt : k < len2
      · have hco : wr.cell? ⟨bY + 1, k, none⟩ = some (.int .i64 0) := (hown.cellAt k (by omega)).trans (part_get S len2 k hn hlt)
        have hfo := hown.frozenAt k
        have R := round_step hn hlt hz hown hgrow
        rw [hSg k] at R
        have hat1 := at_own aA len0 cA bA k A wr (below_owns (below_grown hgrow) hoA23) hx0
        have hat2 := at_own aB len2 cB bB k B wr (below_owns (below_grown hgrow) hoB23) hx2
        have hat3 := at_own aC len4 cC bC k C wr (below_owns (below_grown hgrow) hoC23) hx4
        obtain ⟨xa, hxa⟩ : ∃ x, A.getD k 0 = x := ⟨_, rfl⟩
        obtain ⟨xb, hxb⟩ : ∃ x, B.getD k 0 = x := ⟨_, rfl⟩
        obtain ⟨xc, hxc⟩ : ∃ x, C.getD k 0 = x := ⟨_, rfl⟩
        rw [hxa] at hat1 R
        rw [hxb] at hat2 R
        rw [hxc] at hat3 R
        have H1 : Hid (Calls Try.prog 10 #[.slice aA len0 cA, .int .i64 k] wr fun e w' => e = .returned (.int .i64 xa) ∧ w' = wr) := hat1
        have H2 : Hid (Calls Try.prog 10 #[.slice aB len2 cB, .int .i64 k] wr fun e w' => e = .returned (.int .i64 xb) ∧ w' = wr) := hat2
        have H3 : Hid (Calls Try.prog 10 #[.slice aC len4 cC, .int .i64 k] wr fun e w' => e = .returned (.int .i64 xc) ∧ w' = wr) := hat3
        have hlt' : (k : Int) < (len2 : Int) := by omega
        clear hat1 hat2 hat3 hxa hxb hxc hown hgrow hoA23 hoB23 hoC23 hB23 hsx23 hsz23 hby hbx23 hSg
        go_wp2_with fail
        refine H1.out.mono ?_
        rintro e w' ⟨rfl, hw'⟩
        subst hw'
        go_wp2_with fail
        refine H2.out.mono ?_
        rintro e w' ⟨rfl, hw'⟩
        subst hw'
        go_wp2_with fail
        refine H3.out.mono ?_
        rintro e w' ⟨rfl, hw'⟩
        subst hw'
        go_wp2
        go_roundw
        case rel => exact ⟨k + 1, by omega, by go_num, R.1, R.2⟩
        case measure => simp [intOf]; omega
      · have hkn : k = len2 := by omega
        subst hkn
        rw [part_full S k hn] at hown
        obtain ⟨wq, hwq⟩ : ∃ w', w' = wr := ⟨_, rfl⟩
        rw [← hwq] at hown hgrow ⊢
        have hal : ∀ O, Below wq.heap.size wq (wq.alloc O) := fun O => (Below.refl _ wq).alloc (Nat.le_refl _) O
        have hTq := below_grown hgrow
        have hby := below_heap hTq hby (lt_of_block hby)
        have hbx := below_heap hTq hbx23 (lt_of_block hbx23)
        have hsx := (below_st hTq hsx23).own
        have hsy := (below_st hTq hsz23).own
        have hBq := hB23.step hTq
        rw [hn] at hsx hsy
        clear hwq hgrow hTq hsx23 hsz23 hoA23 hoB23 hoC23 hB23 hbx23
        have hw0 : (wq.alloc (.cells #[.int .i64 0, .int .i64 0, .int .i64 0, .int .i64 0, .int .i64 0] 23)).heap[wq.heap.size]? = some (.cells (wfc s0 s1 s2 s3 s4 0) 23 (0, 0)) := heap_alloc_new wq _
        go_wp2
        go_loopw [24] (fun i wz => ∃ m : Nat, m ≤ 5 ∧ i = .int .i64 m ∧ wz.heap[wq.heap.size]? = some (.cells (wfc s0 s1 s2 s3 s4 m) 23 (0, 0)) ∧ Below wq.heap.size wq wz) (fun i _ => 5 - (intOf i).toNat)
        case atStart => exact ⟨0, by omega, rfl, hw0, hal _⟩
        case round =>
          clear hw0 hal
          obtain ⟨m, hm, rfl, hwf, hbel⟩ := hrel
          have hBz := hBq.step hbel
          by_cases hm5 : m < 5
          · have hca := five_at hBz.ba m hm5
            have hcb := five_at hBz.bb m hm5
            have hcc := five_at hBz.bc m hm5
            obtain ⟨xw, hcw⟩ := wfc_get s0 s1 s2 s3 s4 m m hm5
            rw [← cell_of_row _ _ _ _ _ _ hwf] at hcw
            have hfw := frozen_of_row _ _ m _ _ hwf
            have R := heap_setCell_same _ _ m _ _ (.int .i64 (pick5 s0 s1 s2 s3 s4 m)) hwf
            rw [wfc_set _ _ _ _ _ m hm5, ← HP.out m] at R
            obtain ⟨xa, hxa⟩ : ∃ x, pick5 x0 x1 x2 x3 x4 m = x := ⟨_, rfl⟩
            obtain ⟨xb, hxb⟩ : ∃ x, pick5 y0 y1 y2 y3 y4 m = x := ⟨_, rfl⟩
            obtain ⟨xc, hxc⟩ : ∃ x, pick5 u0 u1 u2 u3 u4 m = x := ⟨_, rfl⟩
            rw [hxa] at hca R
            rw [hxb] at hcb R
            rw [hxc] at hcc R
            have hm5' : (m : Int) < 5 := by omega
            clear hxa hxb hxc hwf hBz hsx hsy hby hbx hown hBq
            go_wp2
            go_region
            go_wp2
            go_roundw
            case rel => exact ⟨m + 1, by omega, by go_num, R, (hbel.setCell (p := ⟨wq.heap.size, m, none⟩) (Nat.le_refl _) _).drew⟩
            case measure => simp [intOf]; omega
          · have hm5e : m = 5 := by omega
            subst hm5e
            have hwf5 : wr.heap[wq.heap.size]? = some (.cells #[.int .i64 s0, .int .i64 s1, .int .i64 s2, .int .i64 s3, .int .i64 s4] 23 (0, 0)) := hwf
            have hby' := below_heap hbel hby (lt_of_block hby)
            have hbx' := below_heap hbel hbx (lt_of_block hbx)
            obtain ⟨d0, d1, d2, d3, d4⟩ := five hwf5
            obtain ⟨e0, e1, e2, e3, e4⟩ := five hbx'
            obtain ⟨g0, g1, g2, g3, g4⟩ := five hby'
            have hs1 := same_own aX (some ⟨bY + 1, 0, none⟩) k cX k _ _ S wr (below_owns hbel hsx) (below_owns hbel hown) (by omega) hn
            have hs2 := fun j => same_own aZ (some ⟨bY + 1, 0, none⟩) k cZ k _ _ S (wr.drewN j) (owns_drewN (below_owns hbel hsy) j) (owns_drewN (below_owns hbel hown) j) (by omega) hn
            have H1 : Hid (Calls Try.prog 11 #[.slice aX k cX, .slice (some ⟨bY + 1, 0, none⟩) k k] wr fun e w' => e = .returned (.bool true) ∧ ∃ m, w' = wr.drewN m) := hs1
            have H2 : Hid (∀ j, Calls Try.prog 11 #[.slice aZ k cZ, .slice (some ⟨bY + 1, 0, none⟩) k k] (wr.drewN j) fun e w' => e = .returned (.bool true) ∧ ∃ m, w' = (wr.drewN j).drewN m) := hs2
            have hq := eq5 s0 s1 s2 s3 s4
            have hgd := guard23
            have hfin := (hBq.step hbel).bel
            clear hs1 hs2 hwf hwf5 hby' hbx' hsx hsy hby hbx hown hBq hBz
            go_wp2_with fail
            refine H1.out.mono ?_
            rintro e w' ⟨rfl, m1, hw'⟩
            subst hw'
            go_wp2_with fail
            refine (H2.out m1).mono ?_
            rintro e w' ⟨rfl, m2, hw'⟩
            subst hw'
            go_wp2
            go_ret
            exact ⟨rfl, hfin.os, hfin.tape, hfin.output, hfin.size, hfin.block⟩
  · obtain ⟨hc1, hc2⟩ := hcase
    have hn : S.length = len4 := by have := HSl.out; omega
    rw [hn] at hsx22 hsz22 ⊢
    go_wp2_with (at_make; refine wpList_make_full _ rfl _ _ 22 rfl (w22.heap.size + 1) 3 i0 (.int .i64 0) 1 Try.underlying22 hi hz0 hz1 _ _ _ _ len4 rfl rfl rfl rfl (by rw [hz2]; omega) (by unfold maxLen; omega) (by simp) ?_)
    intro w24 hown hgrow
    rw [(toList_madeCells_one (.int .i64 0) len4).trans (part_zero S len4).symm] at hown
    obtain ⟨w23, hw23⟩ : ∃ w', w' = w22.alloc (.cells #[.int .i64 s0, .int .i64 s1, .int .i64 s2, .int .i64 s3, .int .i64 s4] 23) := ⟨_, rfl⟩
    have hal22 : Below w22.heap.size w22 w23 := by rw [hw23]; exact (Below.refl _ w22).alloc (Nat.le_refl _) _
    have hz23 : w23.heap.size = w22.heap.size + 1 := by rw [hw23]; simp
    have hby : w23.heap[w22.heap.size]? = some (.cells #[.int .i64 s0, .int .i64 s1, .int .i64 s2, .int .i64 s3, .int .i64 s4] 23 (0, 0)) := by rw [hw23]; exact heap_alloc_new w22 _
    have hbx23 := below_heap hal22 hbx hbl
    have hsx23 := below_st hal22 hsx22
    have hsz23 := below_st hal22 hsz22
    have hoA23 := below_owns hal22 hoA22
    have hoB23 := below_owns hal22 hoB22
    have hoC23 := below_owns hal22 hoC22
    have hB23 := hB22.step hal22
    rw [← hw23] at hgrow
    obtain ⟨bY, hbY⟩ : ∃ b, b = w22.heap.size := ⟨_, rfl⟩
    rw [← hbY] at hown hz23 hby ⊢
    have hz : w23.heap.size ≤ bY + 1 := Nat.le_of_eq hz23
    clear hz23 hbY hw23 hal22 hbx hsx22 hsz22 hoA22 hoB22 hoC22 hB22 hbl
    go_wp2
    go_loopw [22] (fun i wr => ∃ k : Nat, k ≤ len4 ∧ i = .int .i64 k ∧ wr.ownsRow (bY + 1) 3 1 (.slice (some ⟨bY + 1, 0, none⟩) len4 len4) len4 (part S len4 k) ∧ w23.grownBy wr none) (fun i _ => len4 - (intOf i).toNat)
    case atStart => exact ⟨0, Nat.zero_le _, rfl, hown, hgrow⟩
    case round =>
      clear hown hgrow
      obtain ⟨k, hk, rfl, hown, hgrow⟩ := hrel
      by_cases hlt : k < len4
      · have hco : wr.cell? ⟨bY + 1, k, none⟩ = some (.int .i64 0) := (hown.cellAt k (by omega)).trans (part_get S len4 k hn hlt)
        have hfo := hown.frozenAt k
        have R := round_step hn hlt hz hown hgrow
        rw [hSg k] at R
        have hat1 := at_own aA len0 cA bA k A wr (below_owns (below_grown hgrow) hoA23) hx0
        have hat2 := at_own aB len2 cB bB k B wr (below_owns (below_grown hgrow) hoB23) hx2
        have hat3 := at_own aC len4 cC bC k C wr (below_owns (below_grown hgrow) hoC23) hx4
        obtain ⟨xa, hxa⟩ : ∃ x, A.getD k 0 = x := ⟨_, rfl⟩
        obtain ⟨xb, hxb⟩ : ∃ x, B.getD k 0 = x := ⟨_, rfl⟩
        obtain ⟨xc, hxc⟩ : ∃ x, C.getD k 0 = x := ⟨_, rfl⟩
        rw [hxa] at hat1 R
        rw [hxb] at hat2 R
        rw [hxc] at hat3 R
        have H1 : Hid (Calls Try.prog 10 #[.slice aA len0 cA, .int .i64 k] wr fun e w' => e = .returned (.int .i64 xa) ∧ w' = wr) := hat1
        have H2 : Hid (Calls Try.prog 10 #[.slice aB len2 cB, .int .i64 k] wr fun e w' => e = .returned (.int .i64 xb) ∧ w' = wr) := hat2
        have H3 : Hid (Calls Try.prog 10 #[.slice aC len4 cC, .int .i64 k] wr fun e w' => e = .returned (.int .i64 xc) ∧ w' = wr) := hat3
        have hlt' : (k : Int) < (len4 : Int) := by omega
        clear hat1 hat2 hat3 hxa hxb hxc hown hgrow hoA23 hoB23 hoC23 hB23 hsx23 hsz23 hby hbx23 hSg
        go_wp2_with fail
        refine H1.out.mono ?_
        rintro e w' ⟨rfl, hw'⟩
        subst hw'
        go_wp2_with fail
        refine H2.out.mono ?_
        rintro e w' ⟨rfl, hw'⟩
        subst hw'
        go_wp2_with fail
        refine H3.out.mono ?_
        rintro e w' ⟨rfl, hw'⟩
        subst hw'
        go_wp2
        go_roundw
        case rel => exact ⟨k + 1, by omega, by go_num, R.1, R.2⟩
        case measure => simp [intOf]; omega
      · have hkn : k = len4 := by omega
        subst hkn
        rw [part_full S k hn] at hown
        obtain ⟨wq, hwq⟩ : ∃ w', w' = wr := ⟨_, rfl⟩
        rw [← hwq] at hown hgrow ⊢
        have hal : ∀ O, Below wq.heap.size wq (wq.alloc O) := fun O => (Below.refl _ wq).alloc (Nat.le_refl _) O
        have hTq := below_grown hgrow
        have hby := below_heap hTq hby (lt_of_block hby)
        have hbx := below_heap hTq hbx23 (lt_of_block hbx23)
        have hsx := (below_st hTq hsx23).own
        have hsy := (below_st hTq hsz23).own
        have hBq := hB23.step hTq
        rw [hn] at hsx hsy
        clear hwq hgrow hTq hsx23 hsz23 hoA23 hoB23 hoC23 hB23 hbx23
        have hw0 : (wq.alloc (.cells #[.int .i64 0, .int .i64 0, .int .i64 0, .int .i64 0, .int .i64 0] 23)).heap[wq.heap.size]? = some (.cells (wfc s0 s1 s2 s3 s4 0) 23 (0, 0)) := heap_alloc_new wq _
        go_wp2
        go_loopw [24] (fun i wz => ∃ m : Nat, m ≤ 5 ∧ i = .int .i64 m ∧ wz.heap[wq.heap.size]? = some (.cells (wfc s0 s1 s2 s3 s4 m) 23 (0, 0)) ∧ Below wq.heap.size wq wz) (fun i _ => 5 - (intOf i).toNat)
        case atStart => exact ⟨0, by omega, rfl, hw0, hal _⟩
        case round =>
          clear hw0 hal
          obtain ⟨m, hm, rfl, hwf, hbel⟩ := hrel
          have hBz := hBq.step hbel
          by_cases hm5 : m < 5
          · have hca := five_at hBz.ba m hm5
            have hcb := five_at hBz.bb m hm5
            have hcc := five_at hBz.bc m hm5
            obtain ⟨xw, hcw⟩ := wfc_get s0 s1 s2 s3 s4 m m hm5
            rw [← cell_of_row _ _ _ _ _ _ hwf] at hcw
            have hfw := frozen_of_row _ _ m _ _ hwf
            have R := heap_setCell_same _ _ m _ _ (.int .i64 (pick5 s0 s1 s2 s3 s4 m)) hwf
            rw [wfc_set _ _ _ _ _ m hm5, ← HP.out m] at R
            obtain ⟨xa, hxa⟩ : ∃ x, pick5 x0 x1 x2 x3 x4 m = x := ⟨_, rfl⟩
            obtain ⟨xb, hxb⟩ : ∃ x, pick5 y0 y1 y2 y3 y4 m = x := ⟨_, rfl⟩
            obtain ⟨xc, hxc⟩ : ∃ x, pick5 u0 u1 u2 u3 u4 m = x := ⟨_, rfl⟩
            rw [hxa] at hca R
            rw [hxb] at hcb R
            rw [hxc] at hcc R
            have hm5' : (m : Int) < 5 := by omega
            clear hxa hxb hxc hwf hBz hsx hsy hby hbx hown hBq
            go_wp2
            go_region
            go_wp2
            go_roundw
            case rel => exact ⟨m + 1, by omega, by go_num, R, (hbel.setCell (p := ⟨wq.heap.size, m, none⟩) (Nat.le_refl _) _).drew⟩
            case measure => simp [intOf]; omega
          · have hm5e : m = 5 := by omega
            subst hm5e
            have hwf5 : wr.heap[wq.heap.size]? = some (.cells #[.int .i64 s0, .int .i64 s1, .int .i64 s2, .int .i64 s3, .int .i64 s4] 23 (0, 0)) := hwf
            have hby' := below_heap hbel hby (lt_of_block hby)
            have hbx' := below_heap hbel hbx (lt_of_block hbx)
            obtain ⟨d0, d1, d2, d3, d4⟩ := five hwf5
            obtain ⟨e0, e1, e2, e3, e4⟩ := five hbx'
            obtain ⟨g0, g1, g2, g3, g4⟩ := five hby'
            have hs1 := same_own aX (some ⟨bY + 1, 0, none⟩) k cX k _ _ S wr (below_owns hbel hsx) (below_owns hbel hown) (by omega) hn
            have hs2 := fun j => same_own aZ (some ⟨bY + 1, 0, none⟩) k cZ k _ _ S (wr.drewN j) (owns_drewN (below_owns hbel hsy) j) (owns_drewN (below_owns hbel hown) j) (by omega) hn
            have H1 : Hid (Calls Try.prog 11 #[.slice aX k cX, .slice (some ⟨bY + 1, 0, none⟩) k k] wr fun e w' => e = .returned (.bool true) ∧ ∃ m, w' = wr.drewN m) := hs1
            have H2 : Hid (∀ j, Calls Try.prog 11 #[.slice aZ k cZ, .slice (some ⟨bY + 1, 0, none⟩) k k] (wr.drewN j) fun e w' => e = .returned (.bool true) ∧ ∃ m, w' = (wr.drewN j).drewN m) := hs2
            have hq := eq5 s0 s1 s2 s3 s4
            have hgd := guard23
            have hfin := (hBq.step hbel).bel
            clear hs1 hs2 hwf hwf5 hby' hbx' hsx hsy hby hbx hown hBq hBz
            go_wp2_with fail
            refine H1.out.mono ?_
            rintro e w' ⟨rfl, m1, hw'⟩
            subst hw'
            go_wp2_with fail
            refine (H2.out m1).mono ?_
            rintro e w' ⟨rfl, m2, hw'⟩
            subst hw'
            go_wp2
            go_ret
            exact ⟨rfl, hfin.os, hfin.tape, hfin.output, hfin.size, hfin.block⟩
  · obtain ⟨hc1, hc2⟩ := hcase
    have hn : S.length = len0 := by have := HSl.out; omega
    rw [hn] at hsx22 hsz22 ⊢
    go_wp2_with (at_make; refine wpList_make_full _ rfl _ _ 22 rfl (w22.heap.size + 1) 3 i0 (.int .i64 0) 1 Try.underlying22 hi hz0 hz1 _ _ _ _ len0 rfl rfl rfl rfl (by rw [hz2]; omega) (by unfold maxLen; omega) (by simp) ?_)
    intro w24 hown hgrow
    rw [(toList_madeCells_one (.int .i64 0) len0).trans (part_zero S len0).symm] at hown
    obtain ⟨w23, hw23⟩ : ∃ w', w' = w22.alloc (.cells #[.int .i64 s0, .int .i64 s1, .int .i64 s2, .int .i64 s3, .int .i64 s4] 23) := ⟨_, rfl⟩
    have hal22 : Below w22.heap.size w22 w23 := by rw [hw23]; exact (Below.refl _ w22).alloc (Nat.le_refl _) _
    have hz23 : w23.heap.size = w22.heap.size + 1 := by rw [hw23]; simp
    have hby : w23.heap[w22.heap.size]? = some (.cells #[.int .i64 s0, .int .i64 s1, .int .i64 s2, .int .i64 s3, .int .i64 s4] 23 (0, 0)) := by rw [hw23]; exact heap_alloc_new w22 _
    have hbx23 := below_heap hal22 hbx hbl
    have hsx23 := below_st hal22 hsx22
    have hsz23 := below_st hal22 hsz22
    have hoA23 := below_owns hal22 hoA22
    have hoB23 := below_owns hal22 hoB22
    have hoC23 := below_owns hal22 hoC22
    have hB23 := hB22.step hal22
    rw [← hw23] at hgrow
    obtain ⟨bY, hbY⟩ : ∃ b, b = w22.heap.size := ⟨_, rfl⟩
    rw [← hbY] at hown hz23 hby ⊢
    have hz : w23.heap.size ≤ bY + 1 := Nat.le_of_eq hz23
    clear hz23 hbY hw23 hal22 hbx hsx22 hsz22 hoA22 hoB22 hoC22 hB22 hbl
    go_wp2
    go_loopw [22] (fun i wr => ∃ k : Nat, k ≤ len0 ∧ i = .int .i64 k ∧ wr.ownsRow (bY + 1) 3 1 (.slice (some ⟨bY + 1, 0, none⟩) len0 len0) len0 (part S len0 k) ∧ w23.grownBy wr none) (fun i _ => len0 - (intOf i).toNat)
    case atStart => exact ⟨0, Nat.zero_le _, rfl, hown, hgrow⟩
    case round =>
      clear hown hgrow
      obtain ⟨k, hk, rfl, hown, hgrow⟩ := hrel
      by_cases hlt : k < len0
      · have hco : wr.cell? ⟨bY + 1, k, none⟩ = some (.int .i64 0) := (hown.cellAt k (by omega)).trans (part_get S len0 k hn hlt)
        have hfo := hown.frozenAt k
        have R := round_step hn hlt hz hown hgrow
        rw [hSg k] at R
        have hat1 := at_own aA len0 cA bA k A wr (below_owns (below_grown hgrow) hoA23) hx0
        have hat2 := at_own aB len2 cB bB k B wr (below_owns (below_grown hgrow) hoB23) hx2
        have hat3 := at_own aC len4 cC bC k C wr (below_owns (below_grown hgrow) hoC23) hx4
        obtain ⟨xa, hxa⟩ : ∃ x, A.getD k 0 = x := ⟨_, rfl⟩
        obtain ⟨xb, hxb⟩ : ∃ x, B.getD k 0 = x := ⟨_, rfl⟩
        obtain ⟨xc, hxc⟩ : ∃ x, C.getD k 0 = x := ⟨_, rfl⟩
        rw [hxa] at hat1 R
        rw [hxb] at hat2 R
        rw [hxc] at hat3 R
        have H1 : Hid (Calls Try.prog 10 #[.slice aA len0 cA, .int .i64 k] wr fun e w' => e = .returned (.int .i64 xa) ∧ w' = wr) := hat1
        have H2 : Hid (Calls Try.prog 10 #[.slice aB len2 cB, .int .i64 k] wr fun e w' => e = .returned (.int .i64 xb) ∧ w' = wr) := hat2
        have H3 : Hid (Calls Try.prog 10 #[.slice aC len4 cC, .int .i64 k] wr fun e w' => e = .returned (.int .i64 xc) ∧ w' = wr) := hat3
        have hlt' : (k : Int) < (len0 : Int) := by omega
        clear hat1 hat2 hat3 hxa hxb hxc hown hgrow hoA23 hoB23 hoC23 hB23 hsx23 hsz23 hby hbx23 hSg
        go_wp2_with fail
        refine H1.out.mono ?_
        rintro e w' ⟨rfl, hw'⟩
        subst hw'
        go_wp2_with fail
        refine H2.out.mono ?_
        rintro e w' ⟨rfl, hw'⟩
        subst hw'
        go_wp2_with fail
        refine H3.out.mono ?_
        rintro e w' ⟨rfl, hw'⟩
        subst hw'
        go_wp2
        go_roundw
        case rel => exact ⟨k + 1, by omega, by go_num, R.1, R.2⟩
        case measure => simp [intOf]; omega
      · have hkn : k = len0 := by omega
        subst hkn
        rw [part_full S k hn] at hown
        obtain ⟨wq, hwq⟩ : ∃ w', w' = wr := ⟨_, rfl⟩
        rw [← hwq] at hown hgrow ⊢
        have hal : ∀ O, Below wq.heap.size wq (wq.alloc O) := fun O => (Below.refl _ wq).alloc (Nat.le_refl _) O
        have hTq := below_grown hgrow
        have hby := below_heap hTq hby (lt_of_block hby)
        have hbx := below_heap hTq hbx23 (lt_of_block hbx23)
        have hsx := (below_st hTq hsx23).own
        have hsy := (below_st hTq hsz23).own
        have hBq := hB23.step hTq
        rw [hn] at hsx hsy
        clear hwq hgrow hTq hsx23 hsz23 hoA23 hoB23 hoC23 hB23 hbx23
        have hw0 : (wq.alloc (.cells #[.int .i64 0, .int .i64 0, .int .i64 0, .int .i64 0, .int .i64 0] 23)).heap[wq.heap.size]? = some (.cells (wfc s0 s1 s2 s3 s4 0) 23 (0, 0)) := heap_alloc_new wq _
        go_wp2
        go_loopw [24] (fun i wz => ∃ m : Nat, m ≤ 5 ∧ i = .int .i64 m ∧ wz.heap[wq.heap.size]? = some (.cells (wfc s0 s1 s2 s3 s4 m) 23 (0, 0)) ∧ Below wq.heap.size wq wz) (fun i _ => 5 - (intOf i).toNat)
        case atStart => exact ⟨0, by omega, rfl, hw0, hal _⟩
        case round =>
          clear hw0 hal
          obtain ⟨m, hm, rfl, hwf, hbel⟩ := hrel
          have hBz := hBq.step hbel
          by_cases hm5 : m < 5
          · have hca := five_at hBz.ba m hm5
            have hcb := five_at hBz.bb m hm5
            have hcc := five_at hBz.bc m hm5
            obtain ⟨xw, hcw⟩ := wfc_get s0 s1 s2 s3 s4 m m hm5
            rw [← cell_of_row _ _ _ _ _ _ hwf] at hcw
            have hfw := frozen_of_row _ _ m _ _ hwf
            have R := heap_setCell_same _ _ m _ _ (.int .i64 (pick5 s0 s1 s2 s3 s4 m)) hwf
            rw [wfc_set _ _ _ _ _ m hm5, ← HP.out m] at R
            obtain ⟨xa, hxa⟩ : ∃ x, pick5 x0 x1 x2 x3 x4 m = x := ⟨_, rfl⟩
            obtain ⟨xb, hxb⟩ : ∃ x, pick5 y0 y1 y2 y3 y4 m = x := ⟨_, rfl⟩
            obtain ⟨xc, hxc⟩ : ∃ x, pick5 u0 u1 u2 u3 u4 m = x := ⟨_, rfl⟩
            rw [hxa] at hca R
            rw [hxb] at hcb R
            rw [hxc] at hcc R
            have hm5' : (m : Int) < 5 := by omega
            clear hxa hxb hxc hwf hBz hsx hsy hby hbx hown hBq
            go_wp2
            go_region
            go_wp2
            go_roundw
            case rel => exact ⟨m + 1, by omega, by go_num, R, (hbel.setCell (p := ⟨wq.heap.size, m, none⟩) (Nat.le_refl _) _).drew⟩
            case measure => simp [intOf]; omega
          · have hm5e : m = 5 := by omega
            subst hm5e
            have hwf5 : wr.heap[wq.heap.size]? = some (.cells #[.int .i64 s0, .int .i64 s1, .int .i64 s2, .int .i64 s3, .int .i64 s4] 23 (0, 0)) := hwf
            have hby' := below_heap hbel hby (lt_of_block hby)
            have hbx' := below_heap hbel hbx (lt_of_block hbx)
            obtain ⟨d0, d1, d2, d3, d4⟩ := five hwf5
            obtain ⟨e0, e1, e2, e3, e4⟩ := five hbx'
            obtain ⟨g0, g1, g2, g3, g4⟩ := five hby'
            have hs1 := same_own aX (some ⟨bY + 1, 0, none⟩) k cX k _ _ S wr (below_owns hbel hsx) (below_owns hbel hown) (by omega) hn
            have hs2 := fun j => same_own aZ (some ⟨bY + 1, 0, none⟩) k cZ k _ _ S (wr.drewN j) (owns_drewN (below_owns hbel hsy) j) (owns_drewN (below_owns hbel hown) j) (by omega) hn
            have H1 : Hid (Calls Try.prog 11 #[.slice aX k cX, .slice (some ⟨bY + 1, 0, none⟩) k k] wr fun e w' => e = .returned (.bool true) ∧ ∃ m, w' = wr.drewN m) := hs1
            have H2 : Hid (∀ j, Calls Try.prog 11 #[.slice aZ k cZ, .slice (some ⟨bY + 1, 0, none⟩) k k] (wr.drewN j) fun e w' => e = .returned (.bool true) ∧ ∃ m, w' = (wr.drewN j).drewN m) := hs2
            have hq := eq5 s0 s1 s2 s3 s4
            have hgd := guard23
            have hfin := (hBq.step hbel).bel
            clear hs1 hs2 hwf hwf5 hby' hbx' hsx hsy hby hbx hown hBq hBz
            go_wp2_with fail
            refine H1.out.mono ?_
            rintro e w' ⟨rfl, m1, hw'⟩
            subst hw'
            go_wp2_with fail
            refine (H2.out m1).mono ?_
            rintro e w' ⟨rfl, m2, hw'⟩
            subst hw'
            go_wp2
            go_ret
            exact ⟨rfl, hfin.os, hfin.tape, hfin.output, hfin.size, hfin.block⟩

set_option maxRecDepth 100000 in
/-- The second law, at every input. -/
theorem walk2_all (a0 : Option Addr) (len0 cap0 : Nat) (z0 : List Int) (a2 : Option Addr) (len2 cap2 : Nat) (z2 : List Int) (a4 : Option Addr) (len4 cap4 : Nat) (z4 : List Int) (x0 x1 x2 x3 x4 y0 y1 y2 y3 y4 u0 u1 u2 u3 u4 : Int) (w : World) (w0 : IsRow .i64 w a0 len0 cap0 z0) (w2 : IsRow .i64 w a2 len2 cap2 z2) (w4 : IsRow .i64 w a4 len4 cap4 z4) :
    Calls Try.prog 4 #[.slice a0 len0 cap0, .agg #[.int .i64 x0, .int .i64 x1, .int .i64 x2, .int .i64 x3, .int .i64 x4], .slice a2 len2 cap2, .agg #[.int .i64 y0, .int .i64 y1, .int .i64 y2, .int .i64 y3, .int .i64 y4], .slice a4 len4 cap4, .agg #[.int .i64 u0, .int .i64 u1, .int .i64 u2, .int .i64 u3, .int .i64 u4]] w fun e w' => e = .returned (.bool true) ∧ Below w.heap.size w w' := by
  by_cases hs : len0 + len2 + len4 ≤ 1048576
  · by_cases hl0 : len0 ≤ 32768
    · by_cases hl2 : len2 ≤ 32768
      · by_cases hl4 : len4 ≤ 32768
        · exact walk2 a0 len0 cap0 z0 a2 len2 cap2 z2 a4 len4 cap4 z4 x0 x1 x2 x3 x4 y0 y1 y2 y3 y4 u0 u1 u2 u3 u4 w w0 w2 w4 hl0 hl2 hl4 hs
        · have hd0 : decide ((32768 : Int) < (len0 : Int)) = false := by simp; omega
          have hd2 : decide ((32768 : Int) < (len2 : Int)) = false := by simp; omega
          have hd4 : (32768 : Int) < (len4 : Int) := by omega
          go_enter Try.func4, Try.ntmps4
          go_wp2_with (go_at_call 12; refine (bytes3_yes a0 a2 a4 len0 cap0 len2 cap2 len4 cap4 x0 x1 x2 x3 x4 y0 y1 y2 y3 y4 u0 u1 u2 u3 u4 _ (by omega) (by omega) (by omega) hs).mono ?_; rintro e w' ⟨rfl, rfl⟩)
          go_ret
          exact ⟨rfl, (base6 w x0 x1 x2 x3 x4 y0 y1 y2 y3 y4 u0 u1 u2 u3 u4 _ _ _).bel⟩
      · have hd0 : decide ((32768 : Int) < (len0 : Int)) = false := by simp; omega
        have hd2 : (32768 : Int) < (len2 : Int) := by omega
        go_enter Try.func4, Try.ntmps4
        go_wp2_with (go_at_call 12; refine (bytes3_yes a0 a2 a4 len0 cap0 len2 cap2 len4 cap4 x0 x1 x2 x3 x4 y0 y1 y2 y3 y4 u0 u1 u2 u3 u4 _ (by omega) (by omega) (by omega) hs).mono ?_; rintro e w' ⟨rfl, rfl⟩)
        go_ret
        exact ⟨rfl, (base6 w x0 x1 x2 x3 x4 y0 y1 y2 y3 y4 u0 u1 u2 u3 u4 _ _ _).bel⟩
    · have hd0 : (32768 : Int) < (len0 : Int) := by omega
      go_enter Try.func4, Try.ntmps4
      go_wp2_with (go_at_call 12; refine (bytes3_yes a0 a2 a4 len0 cap0 len2 cap2 len4 cap4 x0 x1 x2 x3 x4 y0 y1 y2 y3 y4 u0 u1 u2 u3 u4 _ (by omega) (by omega) (by omega) hs).mono ?_; rintro e w' ⟨rfl, rfl⟩)
      go_ret
      exact ⟨rfl, (base6 w x0 x1 x2 x3 x4 y0 y1 y2 y3 y4 u0 u1 u2 u3 u4 _ _ _).bel⟩
  · go_enter Try.func4, Try.ntmps4
    go_wp2_with (go_at_call 12; refine (bytes3_no a0 a2 a4 len0 cap0 len2 cap2 len4 cap4 x0 x1 x2 x3 x4 y0 y1 y2 y3 y4 u0 u1 u2 u3 u4 _ hs).mono ?_; rintro e w' ⟨rfl, rfl⟩)
    go_ret
    exact ⟨rfl, (base6 w x0 x1 x2 x3 x4 y0 y1 y2 y3 y4 u0 u1 u2 u3 u4 _ _ _).bel⟩
end Go.Proofs.Qxb6618405a
