/-
  THE FIRST LAW's WALK.
-/
import Derived.Test.Qxb6618405aPlain
import Derived.ChangeKeysEq
namespace Go.Proofs.Qxb6618405a
open Go.RowKit
set_option linter.unusedVariables false

theorem below_heap {w w' : World} {T k : Nat} {o : Obj} (h : Below T w w') (ho : w.heap[k]? = some o) (hk : k < T) : w'.heap[k]? = some o := (h.block k hk).trans ho
theorem below_owns {w w' : World} {base : Nat} {v : Value} {n : Nat} {xs : List Value} (h : Below w.heap.size w w') (ho : w.ownsRow base 3 1 v n xs) : w'.ownsRow base 3 1 v n xs :=
  (Kept.mk (S := fun _ => False) h.os h.tape h.output h.size (fun k hk _ => h.block k hk)).owns ho (fun _ _ h => h)
theorem below_st {w w' : World} {base p : Nat} {v : Value} {xs : List Int} {f0 f1 f2 f3 f4 : Int} (h : Below w.heap.size w w') (ho : St base w p v xs f0 f1 f2 f3 f4) : St base w' p v xs f0 f1 f2 f3 f4 :=
  ⟨below_heap h ho.blk (lt_of_block ho.blk), below_owns h ho.own⟩
theorem below_grown {w w' : World} (h : w.grownBy w' none) : Below w.heap.size w w' := ⟨h.os, h.tape, h.output, h.size, fun k hk => h.block k hk (by simp)⟩

theorem below_grown' {w w' : World} {T : Nat} (h : w.grownBy w' none) (hT : T ≤ w.heap.size) : Below T w w' := (below_grown h).mono hT
theorem grown_drew {w w' : World} {row : Option Nat} (h : w.drew.grownBy w' row) : w.grownBy w' row := ⟨h.os, h.tape, h.output, h.size, h.block⟩
theorem below_kept {w w' : World} {p T base n : Nat} {v : Value} {xs : List Value} (h : Kept (fun j => j = p ∨ v.ownBlock = some j) w w') (hp : T ≤ p) (ho : w.ownsRow base 3 1 v n xs) (hb : T ≤ base) (hT : T ≤ w.heap.size) : Below T w w' :=
  ⟨h.os, h.tape, h.output, h.size, fun k hk => h.block k (by omega) (by
    rintro (e | e)
    · omega
    · have := (ho.lt k e).1; omega)⟩

/-- The two arrays' boxes; nothing old has turned. -/
structure Base (w : World) (x0 x1 x2 x3 x4 y0 y1 y2 y3 y4 : Int) (W : World) : Prop where
  bel : Below w.heap.size w W
  ba : W.heap[w.heap.size]? = some (.cells #[.int .i64 x0, .int .i64 x1, .int .i64 x2, .int .i64 x3, .int .i64 x4] 23 (0, 0))
  bb : W.heap[w.heap.size + 1]? = some (.cells #[.int .i64 y0, .int .i64 y1, .int .i64 y2, .int .i64 y3, .int .i64 y4] 23 (0, 0))

section
variable {w : World} {x0 x1 x2 x3 x4 y0 y1 y2 y3 y4 : Int} {W W' : World}
theorem Base.step (h : Base w x0 x1 x2 x3 x4 y0 y1 y2 y3 y4 W) (hb : Below W.heap.size W W') : Base w x0 x1 x2 x3 x4 y0 y1 y2 y3 y4 W' :=
  ⟨h.bel.trans (hb.mono h.bel.size), below_heap hb h.ba (lt_of_block h.ba), below_heap hb h.bb (lt_of_block h.bb)⟩
end

theorem five {W : World} {b : Nat} {x0 x1 x2 x3 x4 : Int} (h : W.heap[b]? = some (.cells #[.int .i64 x0, .int .i64 x1, .int .i64 x2, .int .i64 x3, .int .i64 x4] 23 (0, 0))) :
    W.cell? ⟨b, 0, none⟩ = some (.int .i64 x0) ∧ W.cell? ⟨b, 1, none⟩ = some (.int .i64 x1) ∧ W.cell? ⟨b, 2, none⟩ = some (.int .i64 x2) ∧ W.cell? ⟨b, 3, none⟩ = some (.int .i64 x3) ∧ W.cell? ⟨b, 4, none⟩ = some (.int .i64 x4) := by
  refine ⟨?_, ?_, ?_, ?_, ?_⟩ <;> · rw [cell_of_row W b _ _ _ _ h]; rfl

theorem base4 (w : World) (x0 x1 x2 x3 x4 y0 y1 y2 y3 y4 : Int) (C D : Obj) :
    Base w x0 x1 x2 x3 x4 y0 y1 y2 y3 y4 ((((w.alloc (.cells #[.int .i64 x0, .int .i64 x1, .int .i64 x2, .int .i64 x3, .int .i64 x4] 23)).alloc (.cells #[.int .i64 y0, .int .i64 y1, .int .i64 y2, .int .i64 y3, .int .i64 y4] 23)).alloc C).alloc D) := by
  have s1 : (w.alloc (.cells #[.int .i64 x0, .int .i64 x1, .int .i64 x2, .int .i64 x3, .int .i64 x4] 23)).heap.size = w.heap.size + 1 := by simp
  generalize hA : w.alloc (.cells #[.int .i64 x0, .int .i64 x1, .int .i64 x2, .int .i64 x3, .int .i64 x4] 23) = wa at *
  have b1 : Below w.heap.size w wa := hA ▸ (Below.refl _ w).alloc (Nat.le_refl _) _
  have a1 : wa.heap[w.heap.size]? = some (.cells #[.int .i64 x0, .int .i64 x1, .int .i64 x2, .int .i64 x3, .int .i64 x4] 23 (0, 0)) := hA ▸ heap_alloc_new w _
  have b2 : Below wa.heap.size wa (((wa.alloc (.cells #[.int .i64 y0, .int .i64 y1, .int .i64 y2, .int .i64 y3, .int .i64 y4] 23)).alloc C).alloc D) := (((Below.refl _ wa).alloc (Nat.le_refl _) _).alloc (by simp) _).alloc (by simp; omega) _
  refine ⟨b1.trans (b2.mono (by omega)), below_heap b2 a1 (by omega), ?_⟩
  have e := heap_alloc_new wa (.cells #[.int .i64 y0, .int .i64 y1, .int .i64 y2, .int .i64 y3, .int .i64 y4] 23)
  rw [s1] at e
  rw [Below.heap_alloc _ _ _ (by simp; omega), Below.heap_alloc _ _ _ (by simp; omega)]
  exact e

/-- ZZStats over a row that is owned. -/
theorem stats_own (ao : Option Addr) (n c b : Nat) (xs : List Int) (f0 f1 f2 f3 f4 : Int) (w : World) (h : w.ownsRow b 3 1 (.slice ao n c) n (ints xs)) (hx : xs.length = n) :
    Calls Try.prog 7 #[.slice ao n c, .agg #[.int .i64 f0, .int .i64 f1, .int .i64 f2, .int .i64 f3, .int .i64 f4]] w fun e w' => ∃ p, e = .returned (.pointer (some ⟨p, 0, none⟩)) ∧ St b w' p (.slice ao n c) xs f0 f1 f2 f3 f4 ∧ w.grownBy w' none ∧ w.heap.size ≤ p := by
  refine (stats_any ao n c f0 f1 f2 f3 f4 w).mono ?_
  rintro e w' ⟨rfl, rfl⟩
  subst hx
  refine ⟨_, rfl, ⟨?_, (h.alloc _).alloc _⟩, ?_, by omega⟩
  · have e := heap_alloc_new (w.alloc (.cells #[.int .i64 f0, .int .i64 f1, .int .i64 f2, .int .i64 f3, .int .i64 f4] 23)) (.cells #[.slice ao xs.length c, .int .i64 f0, .int .i64 f1, .int .i64 f2, .int .i64 f3, .int .i64 f4] 35)
    simpa using e
  · have hb : Below w.heap.size w ((w.alloc (.cells #[.int .i64 f0, .int .i64 f1, .int .i64 f2, .int .i64 f3, .int .i64 f4] 23)).alloc (.cells #[.slice ao xs.length c, .int .i64 f0, .int .i64 f1, .int .i64 f2, .int .i64 f3, .int .i64 f4] 35)) := ((Below.refl _ w).alloc (Nat.le_refl _) _).alloc (by simp) _
    exact ⟨hb.os, hb.tape, hb.output, hb.size, fun k hk _ => hb.block k hk⟩

/-- The sums as far as they are made. -/
def wfc (s0 s1 s2 s3 s4 : Int) (k : Nat) : Array Value := #[.int .i64 (if 0 < k then s0 else 0), .int .i64 (if 1 < k then s1 else 0), .int .i64 (if 2 < k then s2 else 0), .int .i64 (if 3 < k then s3 else 0), .int .i64 (if 4 < k then s4 else 0)]
def pick5 (s0 s1 s2 s3 s4 : Int) (k : Nat) : Int := if k = 0 then s0 else if k = 1 then s1 else if k = 2 then s2 else if k = 3 then s3 else s4
theorem wfc_set (s0 s1 s2 s3 s4 : Int) (k : Nat) (h : k < 5) : (wfc s0 s1 s2 s3 s4 k).setIfInBounds k (.int .i64 (pick5 s0 s1 s2 s3 s4 k)) = wfc s0 s1 s2 s3 s4 (k + 1) := by
  match k, h with
  | 0, _ => simp [wfc, pick5]
  | 1, _ => simp [wfc, pick5]
  | 2, _ => simp [wfc, pick5]
  | 3, _ => simp [wfc, pick5]
  | 4, _ => simp [wfc, pick5]
theorem wfc_get (s0 s1 s2 s3 s4 : Int) (k j : Nat) (h : j < 5) : ∃ x, (wfc s0 s1 s2 s3 s4 k)[j]? = some (.int .i64 x) := by
  match j, h with
  | 0, _ => exact ⟨_, rfl⟩
  | 1, _ => exact ⟨_, rfl⟩
  | 2, _ => exact ⟨_, rfl⟩
  | 3, _ => exact ⟨_, rfl⟩
  | 4, _ => exact ⟨_, rfl⟩
theorem five_at {W : World} {b : Nat} {x0 x1 x2 x3 x4 : Int} (h : W.heap[b]? = some (.cells #[.int .i64 x0, .int .i64 x1, .int .i64 x2, .int .i64 x3, .int .i64 x4] 23 (0, 0))) (k : Nat) (hk : k < 5) :
    W.cell? ⟨b, k, none⟩ = some (.int .i64 (pick5 x0 x1 x2 x3 x4 k)) := by
  rw [cell_of_row W b _ _ _ _ h]
  match k, hk with
  | 0, _ => rfl
  | 1, _ => rfl
  | 2, _ => rfl
  | 3, _ => rfl
  | 4, _ => rfl
theorem pick5_add (x0 x1 x2 x3 x4 y0 y1 y2 y3 y4 : Int) (k : Nat) : wrap64 (pick5 x0 x1 x2 x3 x4 k + pick5 y0 y1 y2 y3 y4 k) = pick5 (wrap64 (x0 + y0)) (wrap64 (x1 + y1)) (wrap64 (x2 + y2)) (wrap64 (x3 + y3)) (wrap64 (x4 + y4)) k := by
  unfold pick5
  repeat' split
  all_goals rfl

/-- Two arrays of the same five numbers are equal. -/
theorem eq5 (a b c d e : Int) (w : World) : (Op.equalIn 10000 23 (.agg #[.int .i64 a, .int .i64 b, .int .i64 c, .int .i64 d, .int .i64 e]) (.agg #[.int .i64 a, .int .i64 b, .int .i64 c, .int .i64 d, .int .i64 e])).run Try.prog w = .ok true w := by
  obtain ⟨i0, hi, hz0, hz1, hz2⟩ := info_parts info3
  have hc : Try.prog.cellsOf 3 = 1 := by kernel_rfl
  rw [run_equalIn_array w 9999 _ _ Try.underlying23 hi, hc]
  simp [List.range_succ, Op.eqItems, Go.part, Try.underlying3, run_equalIn_int]
theorem guard23 : Try.prog.eqGuardType Try.prog.depth 23 = false := by kernel_rfl

theorem owns_drewN {w : World} {base : Nat} {v : Value} {n : Nat} {xs : List Value} (h : w.ownsRow base 3 1 v n xs) (j : Nat) : (w.drewN j).ownsRow base 3 1 v n xs := h

/-- ZZFields. -/
theorem fields_own (w : World) (base p : Nat) (ao : Option Addr) (n c : Nat) (xs : List Int) (f0 f1 f2 f3 f4 : Int) (h : St base w p (.slice ao n c) xs f0 f1 f2 f3 f4) :
    Calls Try.prog 9 #[.pointer (some ⟨p, 0, none⟩)] w fun e w' => e = .returned (.tuple #[.slice ao n c, .agg #[.int .i64 f0, .int .i64 f1, .int .i64 f2, .int .i64 f3, .int .i64 f4]]) ∧ w.grownBy w' none := by
  refine (zfields_any w p ao n c f0 f1 f2 f3 f4 h.blk).mono ?_
  rintro e w' ⟨rfl, rfl⟩
  have hb : Below w.heap.size w (w.alloc (.cells #[.int .i64 f0, .int .i64 f1, .int .i64 f2, .int .i64 f3, .int .i64 f4] 23)).drew := ((Below.refl _ w).alloc (Nat.le_refl _) _).drew
  exact ⟨rfl, hb.os, hb.tape, hb.output, hb.size, fun k hk _ => hb.block k hk⟩

set_option maxHeartbeats 4000000 in
theorem walk1 (a0 : Option Addr) (len0 cap0 : Nat) (z0 : List Int) (x0 x1 x2 x3 x4 : Int) (a2 : Option Addr) (len2 cap2 : Nat) (z2 : List Int) (y0 y1 y2 y3 y4 : Int) (w : World) (w0 : IsRow .i64 w a0 len0 cap0 z0) (w2 : IsRow .i64 w a2 len2 cap2 z2)
    (hl0 : len0 ≤ 65536) (hl2 : len2 ≤ 65536) (hs : len0 + len2 ≤ 1048576) :
    Calls Try.prog 3 #[.slice a0 len0 cap0, .agg #[.int .i64 x0, .int .i64 x1, .int .i64 x2, .int .i64 x3, .int .i64 x4], .slice a2 len2 cap2, .agg #[.int .i64 y0, .int .i64 y1, .int .i64 y2, .int .i64 y3, .int .i64 y4]] w fun e w' => e = .returned (.bool true) ∧ Below w.heap.size w w' := by
  obtain ⟨i0, hi, hz0, hz1, hz2⟩ := info_parts info3
  go_enter Try.func3, Try.ntmps3
  go_wp2_with (go_at_call 5; refine (bytes2_yes a0 a2 len0 cap0 len2 cap2 x0 x1 x2 x3 x4 y0 y1 y2 y3 y4 _ (by omega) (by omega) hs).mono ?_; rintro e w' ⟨rfl, rfl⟩)
  refine (clone_arg a0 len0 cap0 z0 w _ w0 (base4 w x0 x1 x2 x3 x4 y0 y1 y2 y3 y4 _ _).bel (by omega)).mono ?_
  rintro e wA ⟨aA, cA, rfl, hoA0, hgA⟩
  have hBA := (base4 w x0 x1 x2 x3 x4 y0 y1 y2 y3 y4 _ _).step (below_grown hgA)
  obtain ⟨bA, hoA⟩ : ∃ b, wA.ownsRow b 3 1 (.slice aA len0 cA) len0 (ints (z0.take len0)) := ⟨_, hoA0⟩
  clear hgA hoA0
  go_wp2_with fail
  refine (clone_arg a2 len2 cap2 z2 w _ w2 hBA.bel (by omega)).mono ?_
  rintro e wB ⟨aB, cB, rfl, hoB0, hgB⟩
  have hB := hBA.step (below_grown hgB)
  obtain ⟨bB, hoB⟩ : ∃ b, wB.ownsRow b 3 1 (.slice aB len2 cB) len2 (ints (z2.take len2)) := ⟨_, hoB0⟩
  have hoA' := below_owns (below_grown hgB) hoA
  have hx0 := (isRow_take w0).1
  have hx2 := (isRow_take w2).1
  have hr0 := (isRow_take w0).2
  have hr2 := (isRow_take w2).2
  obtain ⟨A, hA⟩ : ∃ A, A = z0.take len0 := ⟨_, rfl⟩
  obtain ⟨B, hBe⟩ : ∃ B, B = z2.take len2 := ⟨_, rfl⟩
  rw [← hA] at hx0 hr0 hoA'
  rw [← hBe] at hx2 hr2 hoB
  clear hgB hoA hBA w0 w2 hA hBe hoB0
  have hS := five hB.ba
  go_wp2_with fail
  go_region_held3 (fun w' => w'.cell? ⟨w.heap.size, 0, none⟩ = some (.int .i64 x0) ∧ w'.cell? ⟨w.heap.size, 1, none⟩ = some (.int .i64 x1) ∧ w'.cell? ⟨w.heap.size, 2, none⟩ = some (.int .i64 x2) ∧ w'.cell? ⟨w.heap.size, 3, none⟩ = some (.int .i64 x3) ∧ w'.cell? ⟨w.heap.size, 4, none⟩ = some (.int .i64 x4))
    (first | assumption | (simp [*]; done))
    (first
      | (go_at_call 6; refine (clone_own aA len0 cA bA A _ hoA'.drew hx0 (by omega)).mono ?_; rintro e w4 ⟨aX, cX, rfl, hoX, hgX⟩; have hB4 := hB.step (below_grown (grown_drew hgX)); have hS4 := five hB4.ba)
      | (go_at_call 7; refine (stats_own aX len0 cX _ A x0 x1 x2 x3 x4 _ hoX hx0).mono ?_; rintro e w5 ⟨px, rfl, hst, hg5, hpx⟩; have hB5 := hB4.step (below_grown hg5); have hS5 := five hB5.ba))
  have hT5 : Below wB.heap.size wB w5 := (below_grown (grown_drew hgX)).trans (below_grown' hg5 (grown_drew hgX).size)
  have hT5s := (grown_drew hgX).size
  have hoA5 := below_owns hT5 hoA'
  have hoB5 := below_owns hT5 hoB
  have hst5 : St wB.heap.size w5 px (.slice aX len0 cX) A x0 x1 x2 x3 x4 := hst
  have hpT : wB.heap.size ≤ px := by omega
  have hTw := hT5.size
  have hS5b := five hB5.bb
  clear hst hg5 hB4 hS4 hS5 hgX hoX hpx hT5s hS
  go_wp2_with fail
  go_region_held3 (fun w' => w'.cell? ⟨w.heap.size + 1, 0, none⟩ = some (.int .i64 y0) ∧ w'.cell? ⟨w.heap.size + 1, 1, none⟩ = some (.int .i64 y1) ∧ w'.cell? ⟨w.heap.size + 1, 2, none⟩ = some (.int .i64 y2) ∧ w'.cell? ⟨w.heap.size + 1, 3, none⟩ = some (.int .i64 y3) ∧ w'.cell? ⟨w.heap.size + 1, 4, none⟩ = some (.int .i64 y4))
    (first | assumption | (simp [*]; done))
    (first
      | (go_at_call 6; refine (clone_own aB len2 cB bB B _ hoB5.drew hx2 (by omega)).mono ?_; rintro e w6 ⟨aY, cY, rfl, hoY, hgY⟩; have hB6 := hB5.step (below_grown (grown_drew hgY)); have hS6 := five hB6.bb)
      | (go_at_call 7; refine (stats_own aY len2 cY _ B y0 y1 y2 y3 y4 _ hoY hx2).mono ?_; rintro e w7 ⟨qx, rfl, hst7, hg7, hq7⟩; have hB7 := hB6.step (below_grown hg7); have hS7 := five hB7.bb; have hk7 : Below w5.heap.size w5 w7 := (below_grown (grown_drew hgY)).trans (below_grown' hg7 (grown_drew hgY).size); have hsx7 := below_st hk7 hst5)
      | (go_at_call 8; refine (zmerge_any wB.heap.size w7 px qx _ A x0 x1 x2 x3 x4 _ _ B y0 y1 y2 y3 y4 hsx7 hst7 (fun k hk hv => by have h1 := (hst7.own.lt k hk).1; have h2 := (hst5.own.lt k hv).2; simp at h1; omega) (by omega) (by omega) (Nat.le_trans hTw hk7.size)).mono ?_; rintro e w8 ⟨rfl, vx, hst8, hk8, hat8⟩; have hT8 : Below wB.heap.size wB w8 := hT5.trans ((hk7.mono hTw).trans (below_kept hk8 hpT hsx7.own (Nat.le_refl _) (Nat.le_trans hTw hk7.size))); have hB8 := hB.step hT8; have hS8 := five hB8.bb))
  have hoA8 := below_owns hT8 hoA'
  have hoB8 := below_owns hT8 hoB
  rw [mrg_full A B hr0] at hst8
  clear hk8 hat8 hT8 hst7 hg7 hq7 hB7 hS7 hk7 hsx7 hoY hgY hB6 hS6 hT5 hB5 hS5b hst5 hpT hTw hoA5 hoB5 hB hoA' hoB
  go_wp2_with fail
  go_region_held3 (fun w' => w'.cell? ⟨w.heap.size + 1, 0, none⟩ = some (.int .i64 y0) ∧ w'.cell? ⟨w.heap.size + 1, 1, none⟩ = some (.int .i64 y1) ∧ w'.cell? ⟨w.heap.size + 1, 2, none⟩ = some (.int .i64 y2) ∧ w'.cell? ⟨w.heap.size + 1, 3, none⟩ = some (.int .i64 y3) ∧ w'.cell? ⟨w.heap.size + 1, 4, none⟩ = some (.int .i64 y4))
    (first | assumption | (simp [*]; done))
    (first
      | (go_at_call 6; refine (clone_own aB len2 cB bB B _ hoB8.drew hx2 (by omega)).mono ?_; rintro e w9 ⟨aY, cY, rfl, hoY, hgY⟩; have hB9 := hB8.step (below_grown (grown_drew hgY)); have hS9 := five hB9.bb)
      | (go_at_call 7; refine (stats_own aY len2 cY _ B y0 y1 y2 y3 y4 _ hoY hx2).mono ?_; rintro e w10 ⟨py, rfl, hst, hg10, hpy⟩; have hB10 := hB9.step (below_grown hg10); have hS10 := five hB10.bb))
  have hT10 : Below w8.heap.size w8 w10 := (below_grown (grown_drew hgY)).trans (below_grown' hg10 (grown_drew hgY).size)
  have hT10s := (grown_drew hgY).size
  have hoA10 := below_owns hT10 hoA8
  have hst10 : St w8.heap.size w10 py (.slice aY len2 cY) B y0 y1 y2 y3 y4 := hst
  have hpT : w8.heap.size ≤ py := by omega
  have hTw := hT10.size
  have hS10a := five hB10.ba
  clear hst hg10 hB9 hS9 hS10 hgY hoY hpy hT10s hS8
  go_wp2_with fail
  go_region_held3 (fun w' => w'.cell? ⟨w.heap.size, 0, none⟩ = some (.int .i64 x0) ∧ w'.cell? ⟨w.heap.size, 1, none⟩ = some (.int .i64 x1) ∧ w'.cell? ⟨w.heap.size, 2, none⟩ = some (.int .i64 x2) ∧ w'.cell? ⟨w.heap.size, 3, none⟩ = some (.int .i64 x3) ∧ w'.cell? ⟨w.heap.size, 4, none⟩ = some (.int .i64 x4))
    (first | assumption | (simp [*]; done))
    (first
      | (go_at_call 6; refine (clone_own aA len0 cA bA A _ hoA10.drew hx0 (by omega)).mono ?_; rintro e w11 ⟨aZ, cZ, rfl, hoZ, hgZ⟩; have hB11 := hB10.step (below_grown (grown_drew hgZ)); have hS11 := five hB11.ba)
      | (go_at_call 7; refine (stats_own aZ len0 cZ _ A x0 x1 x2 x3 x4 _ hoZ hx0).mono ?_; rintro e w12 ⟨qy, rfl, hst12, hg12, hq12⟩; have hB12 := hB11.step (below_grown hg12); have hS12 := five hB12.ba; have hk12 : Below w10.heap.size w10 w12 := (below_grown (grown_drew hgZ)).trans (below_grown' hg12 (grown_drew hgZ).size); have hsy12 := below_st hk12 hst10)
      | (go_at_call 8; refine (zmerge_any w8.heap.size w12 py qy _ B y0 y1 y2 y3 y4 _ _ A x0 x1 x2 x3 x4 hsy12 hst12 (fun k hk hv => by have h1 := (hst12.own.lt k hk).1; have h2 := (hst10.own.lt k hv).2; simp at h1; omega) (by omega) (by omega) (Nat.le_trans hTw hk12.size)).mono ?_; rintro e w13 ⟨rfl, vy, hst13, hk13, hat13⟩; have hT13 : Below w8.heap.size w8 w13 := hT10.trans ((hk12.mono hTw).trans (below_kept hk13 hpT hsy12.own (Nat.le_refl _) (Nat.le_trans hTw hk12.size))); have hB13 := hB8.step hT13; have hS13 := five hB13.ba))
  rw [mrg_full B A hr2, sum2_comm] at hst13
  have hoA13 := below_owns hT13 hoA8
  have hoB13 := below_owns hT13 hoB8
  have hstx13 := below_st hT13 hst8
  clear hk13 hat13 hT13 hst12 hg12 hq12 hB12 hS12 hk12 hsy12 hoZ hgZ hB11 hS11 hT10 hB10 hS10a hst10 hpT hTw hoA10 hB8 hoA8 hoB8 hst8 hS13
  obtain ⟨aX, cX, hvx⟩ := row_form hstx13.own
  subst hvx
  obtain ⟨aY, cY, hvy⟩ := row_form hst13.own
  subst hvy
  obtain ⟨S, hSe⟩ : ∃ S, S = sum2 A B := ⟨_, rfl⟩
  have HSl : Hid (S.length = max len0 len2) := by show S.length = _; rw [hSe, sum2_length, hx0, hx2]
  have hSg : ∀ j, S.getD j 0 = wrap64 (A.getD j 0 + B.getD j 0) := by rw [hSe]; exact sum2_getD A B
  rw [← hSe] at hst13 hstx13
  clear hSe
  go_wp2_with fail
  refine (fields_own w13 _ px aX S.length cX S _ _ _ _ _ hstx13).mono ?_
  rintro e w14 ⟨rfl, hg14⟩
  have hT14 := below_grown hg14
  have hsx14 := below_st hT14 hstx13
  have hsy14 := below_st hT14 hst13
  have hoA14 := below_owns hT14 hoA13
  have hoB14 := below_owns hT14 hoB13
  have hB14 := hB13.step hT14
  clear hg14 hT14 hstx13 hst13 hoA13 hoB13 hB13
  go_wp2_with fail
  have hal : ∀ O, Below w14.heap.size w14 (w14.alloc O) := fun O => (Below.refl _ w14).alloc (Nat.le_refl _) O
  refine (fields_own _ _ py aY S.length cY S _ _ _ _ _ (below_st (hal _) hsy14)).mono ?_
  rintro e w16 ⟨rfl, hg16⟩
  have hT16 := below_grown hg16
  have hbx := below_heap hT16 (heap_alloc_new w14 _) (by simp)
  have hsx16 := below_st hT16 (below_st (hal _) hsx14)
  have hsy16 := below_st hT16 (below_st (hal _) hsy14)
  have hoA16 := below_owns hT16 (below_owns (hal _) hoA14)
  have hoB16 := below_owns hT16 (below_owns (hal _) hoB14)
  have hB16 := (hB14.step (hal _)).step hT16
  have hbl := lt_of_block hbx
  clear hT16 hg16 hsx14 hsy14 hoA14 hoB14 hB14 hal
  obtain ⟨bx, hbxe⟩ : ∃ b, b = w14.heap.size := ⟨_, rfl⟩
  rw [← hbxe] at hbx hbl ⊢
  clear hbxe
  by_cases hc : len0 < len2
  · have hn : S.length = len2 := by have := HSl.out; omega
    rw [hn] at hsx16 hsy16 ⊢
    go_wp2_with (at_make; refine wpList_make_full _ rfl _ _ 22 rfl (w16.heap.size + 1) 3 i0 (.int .i64 0) 1 Try.underlying22 hi hz0 hz1 _ _ _ _ len2 rfl rfl rfl rfl (by rw [hz2]; omega) (by unfold maxLen; omega) (by simp) ?_)
    intro w18 hown hgrow
    rw [(toList_madeCells_one (.int .i64 0) len2).trans (part_zero S len2).symm] at hown
    obtain ⟨w17, hw17⟩ : ∃ w', w' = w16.alloc (.cells #[.int .i64 (wrap64 (y0 + x0)), .int .i64 (wrap64 (y1 + x1)), .int .i64 (wrap64 (y2 + x2)), .int .i64 (wrap64 (y3 + x3)), .int .i64 (wrap64 (y4 + x4))] 23) := ⟨_, rfl⟩
    have hal16 : Below w16.heap.size w16 w17 := by rw [hw17]; exact (Below.refl _ w16).alloc (Nat.le_refl _) _
    have hz17 : w17.heap.size = w16.heap.size + 1 := by rw [hw17]; simp
    have hby : w17.heap[w16.heap.size]? = some (.cells #[.int .i64 (wrap64 (y0 + x0)), .int .i64 (wrap64 (y1 + x1)), .int .i64 (wrap64 (y2 + x2)), .int .i64 (wrap64 (y3 + x3)), .int .i64 (wrap64 (y4 + x4))] 23 (0, 0)) := by rw [hw17]; exact heap_alloc_new w16 _
    have hbx17 := below_heap hal16 hbx hbl
    have hsx17 := below_st hal16 hsx16
    have hsy17 := below_st hal16 hsy16
    have hoA17 := below_owns hal16 hoA16
    have hoB17 := below_owns hal16 hoB16
    have hB17 := hB16.step hal16
    rw [← hw17] at hgrow
    obtain ⟨bY, hbY⟩ : ∃ b, b = w16.heap.size := ⟨_, rfl⟩
    rw [← hbY] at hown hz17 hby ⊢
    have HZ : Hid (w17.heap.size = bY + 1) := hz17
    clear hz17 hbY hw17 hal16 hbx hsx16 hsy16 hoA16 hoB16 hB16 hbl
    have hz : w17.heap.size ≤ bY + 1 := Nat.le_of_eq HZ.out
    go_wp2
    go_loopw [17] (fun i wr => ∃ k : Nat, k ≤ len2 ∧ i = .int .i64 k ∧ wr.ownsRow (bY + 1) 3 1 (.slice (some ⟨bY + 1, 0, none⟩) len2 len2) len2 (part S len2 k) ∧ w17.grownBy wr none) (fun i _ => len2 - (intOf i).toNat)
    case atStart => exact ⟨0, Nat.zero_le _, rfl, hown, hgrow⟩
    case round =>
      clear hown hgrow
      obtain ⟨k, hk, rfl, hown, hgrow⟩ := hrel
      by_cases hlt : k < len2
      · have hco : wr.cell? ⟨bY + 1, k, none⟩ = some (.int .i64 0) := (hown.cellAt k (by omega)).trans (part_get S len2 k hn hlt)
        have hfo := hown.frozenAt k
        have R := round_step hn hlt hz hown hgrow
        rw [hSg k] at R
        have hat1 := at_own aA len0 cA bA k A wr (below_owns (below_grown hgrow) hoA17) hx0
        have hat2 := at_own aB len2 cB bB k B wr (below_owns (below_grown hgrow) hoB17) hx2
        obtain ⟨xa, hxa⟩ : ∃ x, A.getD k 0 = x := ⟨_, rfl⟩
        obtain ⟨xb, hxb⟩ : ∃ x, B.getD k 0 = x := ⟨_, rfl⟩
        rw [hxa] at hat1 R
        rw [hxb] at hat2 R
        have H1 : Hid (Calls Try.prog 10 #[.slice aA len0 cA, .int .i64 k] wr fun e w' => e = .returned (.int .i64 xa) ∧ w' = wr) := hat1
        have H2 : Hid (Calls Try.prog 10 #[.slice aB len2 cB, .int .i64 k] wr fun e w' => e = .returned (.int .i64 xb) ∧ w' = wr) := hat2
        have hlt' : (k : Int) < (len2 : Int) := by omega
        clear hat1 hat2 hxa hxb hown hgrow hoA17 hoB17 hB17 hsx17 hsy17 hby hbx17 hSg
        go_wp2_with fail
        refine H1.out.mono ?_
        rintro e w' ⟨rfl, hw'⟩
        subst hw'
        go_wp2_with fail
        refine H2.out.mono ?_
        rintro e w' ⟨rfl, hw'⟩
        subst hw'
        go_wp2
        go_roundw
        case rel => exact ⟨k + 1, by omega, by go_num, R.1, R.2⟩
        case measure => simp [intOf]; omega
      · have hkn : k = len2 := by omega
        subst hkn
        rw [part_full S k hn] at hown
        obtain ⟨wq, hwq⟩ : ∃ w', w' = wr := ⟨_, rfl⟩
        rw [← hwq] at hown hgrow ⊢
        have hal : ∀ O, Below wq.heap.size wq (wq.alloc O) := fun O => (Below.refl _ wq).alloc (Nat.le_refl _) O
        have hTq := below_grown hgrow
        have hby := below_heap hTq hby (lt_of_block hby)
        have hbx := below_heap hTq hbx17 (lt_of_block hbx17)
        have hsx := (below_st hTq hsx17).own
        have hsy := (below_st hTq hsy17).own
        have hBq := hB17.step hTq
        rw [hn] at hsx hsy
        clear hwq hgrow hTq hsx17 hsy17 hoA17 hoB17 hB17 hbx17
        have hw0 : (wq.alloc (.cells #[.int .i64 0, .int .i64 0, .int .i64 0, .int .i64 0, .int .i64 0] 23)).heap[wq.heap.size]? = some (.cells (wfc (wrap64 (x0 + y0)) (wrap64 (x1 + y1)) (wrap64 (x2 + y2)) (wrap64 (x3 + y3)) (wrap64 (x4 + y4)) 0) 23 (0, 0)) := heap_alloc_new wq _
        go_wp2
        go_loopw [19] (fun i wz => ∃ m : Nat, m ≤ 5 ∧ i = .int .i64 m ∧ wz.heap[wq.heap.size]? = some (.cells (wfc (wrap64 (x0 + y0)) (wrap64 (x1 + y1)) (wrap64 (x2 + y2)) (wrap64 (x3 + y3)) (wrap64 (x4 + y4)) m) 23 (0, 0)) ∧ Below wq.heap.size wq wz) (fun i _ => 5 - (intOf i).toNat)
        case atStart => exact ⟨0, by omega, rfl, hw0, hal _⟩
        case round =>
          clear hw0 hal
          obtain ⟨m, hm, rfl, hwf, hbel⟩ := hrel
          have hBz := hBq.step hbel
          by_cases hm5 : m < 5
          · have hca := five_at hBz.ba m hm5
            have hcb := five_at hBz.bb m hm5
            obtain ⟨xw, hcw⟩ := wfc_get (wrap64 (x0 + y0)) (wrap64 (x1 + y1)) (wrap64 (x2 + y2)) (wrap64 (x3 + y3)) (wrap64 (x4 + y4)) m m hm5
            rw [← cell_of_row _ _ _ _ _ _ hwf] at hcw
            have hfw := frozen_of_row _ _ m _ _ hwf
            have R := heap_setCell_same _ _ m _ _ (.int .i64 (pick5 (wrap64 (x0 + y0)) (wrap64 (x1 + y1)) (wrap64 (x2 + y2)) (wrap64 (x3 + y3)) (wrap64 (x4 + y4)) m)) hwf
            rw [wfc_set _ _ _ _ _ m hm5, ← pick5_add] at R
            obtain ⟨xa, hxa⟩ : ∃ x, pick5 x0 x1 x2 x3 x4 m = x := ⟨_, rfl⟩
            obtain ⟨xb, hxb⟩ : ∃ x, pick5 y0 y1 y2 y3 y4 m = x := ⟨_, rfl⟩
            rw [hxa] at hca R
            rw [hxb] at hcb R
            have hm5' : (m : Int) < 5 := by omega
            clear hxa hxb hwf hBz hsx hsy hby hbx hown hBq
            go_wp2
            go_region
            go_wp2
            go_roundw
            case rel => exact ⟨m + 1, by omega, by go_num, R, (hbel.setCell (p := ⟨wq.heap.size, m, none⟩) (Nat.le_refl _) _).drew⟩
            case measure => simp [intOf]; omega
          · have hm5e : m = 5 := by omega
            subst hm5e
            have hwf5 : wr.heap[wq.heap.size]? = some (.cells #[.int .i64 (wrap64 (x0 + y0)), .int .i64 (wrap64 (x1 + y1)), .int .i64 (wrap64 (x2 + y2)), .int .i64 (wrap64 (x3 + y3)), .int .i64 (wrap64 (x4 + y4))] 23 (0, 0)) := hwf
            have hby' := below_heap hbel hby (lt_of_block hby)
            have hbx' := below_heap hbel hbx (lt_of_block hbx)
            rw [Int.add_comm y0, Int.add_comm y1, Int.add_comm y2, Int.add_comm y3, Int.add_comm y4] at hby'
            obtain ⟨d0, d1, d2, d3, d4⟩ := five hwf5
            obtain ⟨e0, e1, e2, e3, e4⟩ := five hbx'
            obtain ⟨g0, g1, g2, g3, g4⟩ := five hby'
            have hs1 := same_own aX (some ⟨bY + 1, 0, none⟩) k cX k _ _ S wr (below_owns hbel hsx) (below_owns hbel hown) (by omega) hn
            have hs2 := fun j => same_own aY (some ⟨bY + 1, 0, none⟩) k cY k _ _ S (wr.drewN j) (owns_drewN (below_owns hbel hsy) j) (owns_drewN (below_owns hbel hown) j) (by omega) hn
            have H1 : Hid (Calls Try.prog 11 #[.slice aX k cX, .slice (some ⟨bY + 1, 0, none⟩) k k] wr fun e w' => e = .returned (.bool true) ∧ ∃ m, w' = wr.drewN m) := hs1
            have H2 : Hid (∀ j, Calls Try.prog 11 #[.slice aY k cY, .slice (some ⟨bY + 1, 0, none⟩) k k] (wr.drewN j) fun e w' => e = .returned (.bool true) ∧ ∃ m, w' = (wr.drewN j).drewN m) := hs2
            have hq := eq5 (wrap64 (x0 + y0)) (wrap64 (x1 + y1)) (wrap64 (x2 + y2)) (wrap64 (x3 + y3)) (wrap64 (x4 + y4))
            have hgd := guard23
            have hfin := (hBq.step hbel).bel
            clear hs1 hs2 hwf hwf5 hby' hbx' hsx hsy hby hbx hown hBq hBz
            go_wp2_with fail
            refine H1.out.mono ?_
            rintro e w' ⟨rfl, m1, hw'⟩
            subst hw'
            go_wp2_with fail
            refine (H2.out m1).mono ?_
            rintro e w' ⟨rfl, m2, hw'⟩
            subst hw'
            go_wp2
            go_ret
            exact ⟨rfl, hfin.os, hfin.tape, hfin.output, hfin.size, hfin.block⟩
  · have hn : S.length = len0 := by have := HSl.out; omega
    rw [hn] at hsx16 hsy16 ⊢
    go_wp2_with (at_make; refine wpList_make_full _ rfl _ _ 22 rfl (w16.heap.size + 1) 3 i0 (.int .i64 0) 1 Try.underlying22 hi hz0 hz1 _ _ _ _ len0 rfl rfl rfl rfl (by rw [hz2]; omega) (by unfold maxLen; omega) (by simp) ?_)
    intro w18 hown hgrow
    rw [(toList_madeCells_one (.int .i64 0) len0).trans (part_zero S len0).symm] at hown
    obtain ⟨w17, hw17⟩ : ∃ w', w' = w16.alloc (.cells #[.int .i64 (wrap64 (y0 + x0)), .int .i64 (wrap64 (y1 + x1)), .int .i64 (wrap64 (y2 + x2)), .int .i64 (wrap64 (y3 + x3)), .int .i64 (wrap64 (y4 + x4))] 23) := ⟨_, rfl⟩
    have hal16 : Below w16.heap.size w16 w17 := by rw [hw17]; exact (Below.refl _ w16).alloc (Nat.le_refl _) _
    have hz17 : w17.heap.size = w16.heap.size + 1 := by rw [hw17]; simp
    have hby : w17.heap[w16.heap.size]? = some (.cells #[.int .i64 (wrap64 (y0 + x0)), .int .i64 (wrap64 (y1 + x1)), .int .i64 (wrap64 (y2 + x2)), .int .i64 (wrap64 (y3 + x3)), .int .i64 (wrap64 (y4 + x4))] 23 (0, 0)) := by rw [hw17]; exact heap_alloc_new w16 _
    have hbx17 := below_heap hal16 hbx hbl
    have hsx17 := below_st hal16 hsx16
    have hsy17 := below_st hal16 hsy16
    have hoA17 := below_owns hal16 hoA16
    have hoB17 := below_owns hal16 hoB16
    have hB17 := hB16.step hal16
    rw [← hw17] at hgrow
    obtain ⟨bY, hbY⟩ : ∃ b, b = w16.heap.size := ⟨_, rfl⟩
    rw [← hbY] at hown hz17 hby ⊢
    have HZ : Hid (w17.heap.size = bY + 1) := hz17
    clear hz17 hbY hw17 hal16 hbx hsx16 hsy16 hoA16 hoB16 hB16 hbl
    have hz : w17.heap.size ≤ bY + 1 := Nat.le_of_eq HZ.out
    go_wp2
    go_loopw [17] (fun i wr => ∃ k : Nat, k ≤ len0 ∧ i = .int .i64 k ∧ wr.ownsRow (bY + 1) 3 1 (.slice (some ⟨bY + 1, 0, none⟩) len0 len0) len0 (part S len0 k) ∧ w17.grownBy wr none) (fun i _ => len0 - (intOf i).toNat)
    case atStart => exact ⟨0, Nat.zero_le _, rfl, hown, hgrow⟩
    case round =>
      clear hown hgrow
      obtain ⟨k, hk, rfl, hown, hgrow⟩ := hrel
      by_cases hlt : k < len0
      · have hco : wr.cell? ⟨bY + 1, k, none⟩ = some (.int .i64 0) := (hown.cellAt k (by omega)).trans (part_get S len0 k hn hlt)
        have hfo := hown.frozenAt k
        have R := round_step hn hlt hz hown hgrow
        rw [hSg k] at R
        have hat1 := at_own aA len0 cA bA k A wr (below_owns (below_grown hgrow) hoA17) hx0
        have hat2 := at_own aB len2 cB bB k B wr (below_owns (below_grown hgrow) hoB17) hx2
        obtain ⟨xa, hxa⟩ : ∃ x, A.getD k 0 = x := ⟨_, rfl⟩
        obtain ⟨xb, hxb⟩ : ∃ x, B.getD k 0 = x := ⟨_, rfl⟩
        rw [hxa] at hat1 R
        rw [hxb] at hat2 R
        have H1 : Hid (Calls Try.prog 10 #[.slice aA len0 cA, .int .i64 k] wr fun e w' => e = .returned (.int .i64 xa) ∧ w' = wr) := hat1
        have H2 : Hid (Calls Try.prog 10 #[.slice aB len2 cB, .int .i64 k] wr fun e w' => e = .returned (.int .i64 xb) ∧ w' = wr) := hat2
        have hlt' : (k : Int) < (len0 : Int) := by omega
        clear hat1 hat2 hxa hxb hown hgrow hoA17 hoB17 hB17 hsx17 hsy17 hby hbx17 hSg
        go_wp2_with fail
        refine H1.out.mono ?_
        rintro e w' ⟨rfl, hw'⟩
        subst hw'
        go_wp2_with fail
        refine H2.out.mono ?_
        rintro e w' ⟨rfl, hw'⟩
        subst hw'
        go_wp2
        go_roundw
        case rel => exact ⟨k + 1, by omega, by go_num, R.1, R.2⟩
        case measure => simp [intOf]; omega
      · have hkn : k = len0 := by omega
        subst hkn
        rw [part_full S k hn] at hown
        obtain ⟨wq, hwq⟩ : ∃ w', w' = wr := ⟨_, rfl⟩
        rw [← hwq] at hown hgrow ⊢
        have hal : ∀ O, Below wq.heap.size wq (wq.alloc O) := fun O => (Below.refl _ wq).alloc (Nat.le_refl _) O
        have hTq := below_grown hgrow
        have hby := below_heap hTq hby (lt_of_block hby)
        have hbx := below_heap hTq hbx17 (lt_of_block hbx17)
        have hsx := (below_st hTq hsx17).own
        have hsy := (below_st hTq hsy17).own
        have hBq := hB17.step hTq
        rw [hn] at hsx hsy
        clear hwq hgrow hTq hsx17 hsy17 hoA17 hoB17 hB17 hbx17
        have hw0 : (wq.alloc (.cells #[.int .i64 0, .int .i64 0, .int .i64 0, .int .i64 0, .int .i64 0] 23)).heap[wq.heap.size]? = some (.cells (wfc (wrap64 (x0 + y0)) (wrap64 (x1 + y1)) (wrap64 (x2 + y2)) (wrap64 (x3 + y3)) (wrap64 (x4 + y4)) 0) 23 (0, 0)) := heap_alloc_new wq _
        go_wp2
        go_loopw [19] (fun i wz => ∃ m : Nat, m ≤ 5 ∧ i = .int .i64 m ∧ wz.heap[wq.heap.size]? = some (.cells (wfc (wrap64 (x0 + y0)) (wrap64 (x1 + y1)) (wrap64 (x2 + y2)) (wrap64 (x3 + y3)) (wrap64 (x4 + y4)) m) 23 (0, 0)) ∧ Below wq.heap.size wq wz) (fun i _ => 5 - (intOf i).toNat)
        case atStart => exact ⟨0, by omega, rfl, hw0, hal _⟩
        case round =>
          clear hw0 hal
          obtain ⟨m, hm, rfl, hwf, hbel⟩ := hrel
          have hBz := hBq.step hbel
          by_cases hm5 : m < 5
          · have hca := five_at hBz.ba m hm5
            have hcb := five_at hBz.bb m hm5
            obtain ⟨xw, hcw⟩ := wfc_get (wrap64 (x0 + y0)) (wrap64 (x1 + y1)) (wrap64 (x2 + y2)) (wrap64 (x3 + y3)) (wrap64 (x4 + y4)) m m hm5
            rw [← cell_of_row _ _ _ _ _ _ hwf] at hcw
            have hfw := frozen_of_row _ _ m _ _ hwf
            have R := heap_setCell_same _ _ m _ _ (.int .i64 (pick5 (wrap64 (x0 + y0)) (wrap64 (x1 + y1)) (wrap64 (x2 + y2)) (wrap64 (x3 + y3)) (wrap64 (x4 + y4)) m)) hwf
            rw [wfc_set _ _ _ _ _ m hm5, ← pick5_add] at R
            obtain ⟨xa, hxa⟩ : ∃ x, pick5 x0 x1 x2 x3 x4 m = x := ⟨_, rfl⟩
            obtain ⟨xb, hxb⟩ : ∃ x, pick5 y0 y1 y2 y3 y4 m = x := ⟨_, rfl⟩
            rw [hxa] at hca R
            rw [hxb] at hcb R
            have hm5' : (m : Int) < 5 := by omega
            clear hxa hxb hwf hBz hsx hsy hby hbx hown hBq
            go_wp2
            go_region
            go_wp2
            go_roundw
            case rel => exact ⟨m + 1, by omega, by go_num, R, (hbel.setCell (p := ⟨wq.heap.size, m, none⟩) (Nat.le_refl _) _).drew⟩
            case measure => simp [intOf]; omega
          · have hm5e : m = 5 := by omega
            subst hm5e
            have hwf5 : wr.heap[wq.heap.size]? = some (.cells #[.int .i64 (wrap64 (x0 + y0)), .int .i64 (wrap64 (x1 + y1)), .int .i64 (wrap64 (x2 + y2)), .int .i64 (wrap64 (x3 + y3)), .int .i64 (wrap64 (x4 + y4))] 23 (0, 0)) := hwf
            have hby' := below_heap hbel hby (lt_of_block hby)
            have hbx' := below_heap hbel hbx (lt_of_block hbx)
            rw [Int.add_comm y0, Int.add_comm y1, Int.add_comm y2, Int.add_comm y3, Int.add_comm y4] at hby'
            obtain ⟨d0, d1, d2, d3, d4⟩ := five hwf5
            obtain ⟨e0, e1, e2, e3, e4⟩ := five hbx'
            obtain ⟨g0, g1, g2, g3, g4⟩ := five hby'
            have hs1 := same_own aX (some ⟨bY + 1, 0, none⟩) k cX k _ _ S wr (below_owns hbel hsx) (below_owns hbel hown) (by omega) hn
            have hs2 := fun j => same_own aY (some ⟨bY + 1, 0, none⟩) k cY k _ _ S (wr.drewN j) (owns_drewN (below_owns hbel hsy) j) (owns_drewN (below_owns hbel hown) j) (by omega) hn
            have H1 : Hid (Calls Try.prog 11 #[.slice aX k cX, .slice (some ⟨bY + 1, 0, none⟩) k k] wr fun e w' => e = .returned (.bool true) ∧ ∃ m, w' = wr.drewN m) := hs1
            have H2 : Hid (∀ j, Calls Try.prog 11 #[.slice aY k cY, .slice (some ⟨bY + 1, 0, none⟩) k k] (wr.drewN j) fun e w' => e = .returned (.bool true) ∧ ∃ m, w' = (wr.drewN j).drewN m) := hs2
            have hq := eq5 (wrap64 (x0 + y0)) (wrap64 (x1 + y1)) (wrap64 (x2 + y2)) (wrap64 (x3 + y3)) (wrap64 (x4 + y4))
            have hgd := guard23
            have hfin := (hBq.step hbel).bel
            clear hs1 hs2 hwf hwf5 hby' hbx' hsx hsy hby hbx hown hBq hBz
            go_wp2_with fail
            refine H1.out.mono ?_
            rintro e w' ⟨rfl, m1, hw'⟩
            subst hw'
            go_wp2_with fail
            refine (H2.out m1).mono ?_
            rintro e w' ⟨rfl, m2, hw'⟩
            subst hw'
            go_wp2
            go_ret
            exact ⟨rfl, hfin.os, hfin.tape, hfin.output, hfin.size, hfin.block⟩

/-- The first law, at every input. -/
theorem walk1_all (a0 : Option Addr) (len0 cap0 : Nat) (z0 : List Int) (x0 x1 x2 x3 x4 : Int) (a2 : Option Addr) (len2 cap2 : Nat) (z2 : List Int) (y0 y1 y2 y3 y4 : Int) (w : World) (w0 : IsRow .i64 w a0 len0 cap0 z0) (w2 : IsRow .i64 w a2 len2 cap2 z2) :
    Calls Try.prog 3 #[.slice a0 len0 cap0, .agg #[.int .i64 x0, .int .i64 x1, .int .i64 x2, .int .i64 x3, .int .i64 x4], .slice a2 len2 cap2, .agg #[.int .i64 y0, .int .i64 y1, .int .i64 y2, .int .i64 y3, .int .i64 y4]] w fun e w' => e = .returned (.bool true) ∧ Below w.heap.size w w' := by
  by_cases hs : len0 + len2 ≤ 1048576
  · by_cases hl0 : len0 ≤ 65536
    · by_cases hl2 : len2 ≤ 65536
      · exact walk1 a0 len0 cap0 z0 x0 x1 x2 x3 x4 a2 len2 cap2 z2 y0 y1 y2 y3 y4 w w0 w2 hl0 hl2 hs
      · have hd0 : decide ((65536 : Int) < (len0 : Int)) = false := by simp; omega
        have hd2 : (65536 : Int) < (len2 : Int) := by omega
        go_enter Try.func3, Try.ntmps3
        go_wp2_with (go_at_call 5; refine (bytes2_yes a0 a2 len0 cap0 len2 cap2 x0 x1 x2 x3 x4 y0 y1 y2 y3 y4 _ (by omega) (by omega) hs).mono ?_; rintro e w' ⟨rfl, rfl⟩)
        go_ret
        exact ⟨rfl, (base4 w x0 x1 x2 x3 x4 y0 y1 y2 y3 y4 _ _).bel⟩
    · have hd0 : (65536 : Int) < (len0 : Int) := by omega
      go_enter Try.func3, Try.ntmps3
      go_wp2_with (go_at_call 5; refine (bytes2_yes a0 a2 len0 cap0 len2 cap2 x0 x1 x2 x3 x4 y0 y1 y2 y3 y4 _ (by omega) (by omega) hs).mono ?_; rintro e w' ⟨rfl, rfl⟩)
      go_ret
      exact ⟨rfl, (base4 w x0 x1 x2 x3 x4 y0 y1 y2 y3 y4 _ _).bel⟩
  · go_enter Try.func3, Try.ntmps3
    go_wp2_with (go_at_call 5; refine (bytes2_no a0 a2 len0 cap0 len2 cap2 x0 x1 x2 x3 x4 y0 y1 y2 y3 y4 _ hs).mono ?_; rintro e w' ⟨rfl, rfl⟩)
    go_ret
    exact ⟨rfl, (base4 w x0 x1 x2 x3 x4 y0 y1 y2 y3 y4 _ _).bel⟩
end Go.Proofs.Qxb6618405a
