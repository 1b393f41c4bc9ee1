/-
  merge, ZZMerge, ZZFields.
-/
import Derived.Test.Qxb6618405aWalkB
import Derived.BigRegion
namespace Go.Proofs.Qxb6618405a
open Go.RowKit
set_option linter.unusedVariables false

/-- What merge has made of a row behind k rounds. -/
def mrg (xs ys : List Int) : Nat → List Int
  | 0 => xs
  | k + 1 => bump (mrg xs ys k) k (ys.getD k 0)

theorem bump_length (xs : List Int) (k : Nat) (n : Int) (h : k ≤ xs.length) : (bump xs k n).length = max xs.length (k + 1) := by
  unfold bump
  by_cases hk : k < xs.length
  · simp [hk]; omega
  · simp [hk]; omega

theorem mrg_length (xs ys : List Int) (k : Nat) : (mrg xs ys k).length = max xs.length k := by
  induction k with
  | zero => simp [mrg]
  | succ k ih => rw [mrg, bump_length _ _ _ (by rw [ih]; omega), ih]; omega

theorem own_ne {base : Nat} {w : World} {v : Value} {n q : Nat} {xs : List Value} {cs : Array Value} {fr : Nat × Nat} (h : w.ownsRow base 3 1 v n xs) (hq : w.heap[q]? = some (.cells cs 35 fr)) : v.ownBlock ≠ some q := by
  intro e
  rcases h.2 with ⟨rfl, _⟩ | ⟨g, cap, cur, rfl, hg, hh, r⟩
  · simp [Value.ownBlock] at e
  · simp [Value.ownBlock] at e
    subst e
    rw [hq] at hh
    simp at hh

/-- count, both ways. -/
theorem count_any (base : Nat) (w : World) (p : Nat) (v : Value) (xs : List Int) (f0 f1 f2 f3 f4 : Int) (k : Nat) (n : Int) (h : St base w p v xs f0 f1 f2 f3 f4) (hk : k ≤ xs.length) (hl : xs.length ≤ 1048576) (hbase : base ≤ w.heap.size) :
    Calls Try.prog 14 #[.pointer (some ⟨p, 0, none⟩), .int .i64 k, .int .i64 n] w fun e w' => e = .returned (.tuple #[]) ∧ ∃ v', St base w' p v' (bump xs k n) f0 f1 f2 f3 f4 ∧ Kept (fun j => j = p ∨ v.ownBlock = some j) w w' ∧ ∀ j, v'.ownBlock = some j → v.ownBlock = some j ∨ w.heap.size ≤ j := by
  by_cases hlt : k < xs.length
  · exact (count_low base w p v xs f0 f1 f2 f3 f4 k n h hlt hl).mono fun e w' ⟨h1, h2, h3⟩ => ⟨h1, v, h2, h3, fun j hj => .inl hj⟩
  · exact count_new base w p v xs f0 f1 f2 f3 f4 k n h (by omega) hl hbase

/-- What holds at each round's head in merge. -/
structure Mg (base : Nat) (w : World) (p : Nat) (v : Value) (xs ys : List Int) (f0 f1 f2 f3 f4 : Int) (ob : Obj) (k : Nat) (v1 : Value) (wr : World) : Prop where
  st : St base wr p v1 (mrg xs ys k) f0 f1 f2 f3 f4
  kept : Kept (fun j => j = p ∨ v.ownBlock = some j) w wr
  at_ : ∀ j, v1.ownBlock = some j → v.ownBlock = some j ∨ w.heap.size ≤ j
  box : wr.heap[w.heap.size]? = some ob

theorem Mg.step {base : Nat} {w : World} {p : Nat} {v : Value} {xs ys : List Int} {f0 f1 f2 f3 f4 : Int} {cs : Array Value} {k : Nat} {v1 : Value} {wr : World} (h : Mg base w p v xs ys f0 f1 f2 f3 f4 (.cells cs 35 (0, 0)) k v1 wr) (hp : p < w.heap.size)
    {w' : World} {v' : Value} (h1 : St base w' p v' (bump (mrg xs ys k) k (ys.getD k 0)) f0 f1 f2 f3 f4) (h2 : Kept (fun j => j = p ∨ v1.ownBlock = some j) wr w') (h3 : ∀ j, v'.ownBlock = some j → v1.ownBlock = some j ∨ wr.heap.size ≤ j) :
    Mg base w p v xs ys f0 f1 f2 f3 f4 (.cells cs 35 (0, 0)) (k + 1) v' w' := by
  refine ⟨h1, h.kept.trans h2 ?_, ?_, ?_⟩
  · intro j hj hs
    rcases hs with e | e
    · exact .inl e
    · rcases h.at_ j e with e' | e'
      · exact .inr e'
      · omega
  · intro j hj
    have hs := h.kept.size
    rcases h3 j hj with e | e
    · exact h.at_ j e
    · exact .inr (by omega)
  · refine h2.heap h.box ?_
    rintro (e | e)
    · omega
    · exact own_ne h.st.own h.box e

theorem St.drew {base : Nat} {w : World} {p : Nat} {v : Value} {xs : List Int} {f0 f1 f2 f3 f4 : Int} (h : St base w p v xs f0 f1 f2 f3 f4) : St base w.drew p v xs f0 f1 f2 f3 f4 := ⟨h.blk, h.own⟩
theorem St.f0 {base : Nat} {w : World} {p : Nat} {v : Value} {xs : List Int} {f0 f1 f2 f3 f4 : Int} (h : St base w p v xs f0 f1 f2 f3 f4) (a : Int) : St base (w.setCell ⟨p, 1, none⟩ (.int .i64 a)) p v xs a f1 f2 f3 f4 :=
  ⟨(heap_setCell_same w p 1 _ 35 _ h.blk).trans (by simp), ownsRow_setCell_other h.own (a := ⟨p, 1, none⟩) h.ne _⟩
theorem St.f1 {base : Nat} {w : World} {p : Nat} {v : Value} {xs : List Int} {f0 f1 f2 f3 f4 : Int} (h : St base w p v xs f0 f1 f2 f3 f4) (a : Int) : St base (w.setCell ⟨p, 2, none⟩ (.int .i64 a)) p v xs f0 a f2 f3 f4 :=
  ⟨(heap_setCell_same w p 2 _ 35 _ h.blk).trans (by simp), ownsRow_setCell_other h.own (a := ⟨p, 2, none⟩) h.ne _⟩
theorem St.f2 {base : Nat} {w : World} {p : Nat} {v : Value} {xs : List Int} {f0 f1 f2 f3 f4 : Int} (h : St base w p v xs f0 f1 f2 f3 f4) (a : Int) : St base (w.setCell ⟨p, 3, none⟩ (.int .i64 a)) p v xs f0 f1 a f3 f4 :=
  ⟨(heap_setCell_same w p 3 _ 35 _ h.blk).trans (by simp), ownsRow_setCell_other h.own (a := ⟨p, 3, none⟩) h.ne _⟩
theorem St.f3 {base : Nat} {w : World} {p : Nat} {v : Value} {xs : List Int} {f0 f1 f2 f3 f4 : Int} (h : St base w p v xs f0 f1 f2 f3 f4) (a : Int) : St base (w.setCell ⟨p, 4, none⟩ (.int .i64 a)) p v xs f0 f1 f2 a f4 :=
  ⟨(heap_setCell_same w p 4 _ 35 _ h.blk).trans (by simp), ownsRow_setCell_other h.own (a := ⟨p, 4, none⟩) h.ne _⟩
theorem St.f4 {base : Nat} {w : World} {p : Nat} {v : Value} {xs : List Int} {f0 f1 f2 f3 f4 : Int} (h : St base w p v xs f0 f1 f2 f3 f4) (a : Int) : St base (w.setCell ⟨p, 5, none⟩ (.int .i64 a)) p v xs f0 f1 f2 f3 a :=
  ⟨(heap_setCell_same w p 5 _ 35 _ h.blk).trans (by simp), ownsRow_setCell_other h.own (a := ⟨p, 5, none⟩) h.ne _⟩

theorem Mg.fin {base : Nat} {w : World} {p : Nat} {v : Value} {xs ys : List Int} {f0 f1 f2 f3 f4 : Int} {ob : Obj} {k : Nat} {v1 : Value} {wr : World} (h : Mg base w p v xs ys f0 f1 f2 f3 f4 ob k v1 wr) (a0 a1 a2 a3 a4 : Int) :
    ∃ v', St base (((((wr.setCell ⟨p, 1, none⟩ (.int .i64 a0)).setCell ⟨p, 2, none⟩ (.int .i64 a1)).setCell ⟨p, 3, none⟩ (.int .i64 a2)).setCell ⟨p, 4, none⟩ (.int .i64 a3)).setCell ⟨p, 5, none⟩ (.int .i64 a4)).drew.drew.drew.drew.drew p v' (mrg xs ys k) a0 a1 a2 a3 a4 ∧
      Kept (fun j => j = p ∨ v.ownBlock = some j) w (((((wr.setCell ⟨p, 1, none⟩ (.int .i64 a0)).setCell ⟨p, 2, none⟩ (.int .i64 a1)).setCell ⟨p, 3, none⟩ (.int .i64 a2)).setCell ⟨p, 4, none⟩ (.int .i64 a3)).setCell ⟨p, 5, none⟩ (.int .i64 a4)).drew.drew.drew.drew.drew ∧
      ∀ j, v'.ownBlock = some j → v.ownBlock = some j ∨ w.heap.size ≤ j := by
  refine ⟨v1, (((((h.st.f0 a0).f1 a1).f2 a2).f3 a3).f4 a4).drew.drew.drew.drew.drew, ?_, h.at_⟩
  exact (((((h.kept.setCell (p := ⟨p, 1, none⟩) (fun _ => .inl rfl) _).setCell (p := ⟨p, 2, none⟩) (fun _ => .inl rfl) _).setCell (p := ⟨p, 3, none⟩) (fun _ => .inl rfl) _).setCell (p := ⟨p, 4, none⟩) (fun _ => .inl rfl) _).setCell (p := ⟨p, 5, none⟩) (fun _ => .inl rfl) _).drew.drew.drew.drew.drew

set_option maxHeartbeats 1000000 in
theorem merge_any (base : Nat) (w : World) (p : Nat) (v : Value) (xs : List Int) (f0 f1 f2 f3 f4 : Int) (base2 : Nat) (ao : Option Addr) (c : Nat) (ys : List Int) (g0 g1 g2 g3 g4 : Int)
    (h : St base w p v xs f0 f1 f2 f3 f4) (hu : w.ownsRow base2 3 1 (.slice ao ys.length c) ys.length (ints ys)) (hne : ∀ k, (Value.slice ao ys.length c).ownBlock = some k → v.ownBlock ≠ some k)
    (hx : xs.length ≤ 1048576) (hy : ys.length ≤ 1048576) (hbase : base ≤ w.heap.size) :
    Calls Try.prog 13 #[.pointer (some ⟨p, 0, none⟩), .agg #[.slice ao ys.length c, .int .i64 g0, .int .i64 g1, .int .i64 g2, .int .i64 g3, .int .i64 g4]] w fun e w' => e = .returned (.tuple #[]) ∧
      ∃ v', St base w' p v' (mrg xs ys ys.length) (wrap64 (f0 + g0)) (wrap64 (f1 + g1)) (wrap64 (f2 + g2)) (wrap64 (f3 + g3)) (wrap64 (f4 + g4)) ∧ Kept (fun j => j = p ∨ v.ownBlock = some j) w w' ∧ ∀ j, v'.ownBlock = some j → v.ownBlock = some j ∨ w.heap.size ≤ j := by
  have hp := lt_of_block h.blk
  have M0 : Mg base w p v xs ys f0 f1 f2 f3 f4 (.cells #[.slice ao ys.length c, .int .i64 g0, .int .i64 g1, .int .i64 g2, .int .i64 g3, .int .i64 g4] 35 (0, 0)) 0 v (w.alloc (.cells #[.slice ao ys.length c, .int .i64 g0, .int .i64 g1, .int .i64 g2, .int .i64 g3, .int .i64 g4] 35)) := by
    have hk : Kept (fun _ => False) w (w.alloc (.cells #[.slice ao ys.length c, .int .i64 g0, .int .i64 g1, .int .i64 g2, .int .i64 g3, .int .i64 g4] 35)) := (Kept.refl _ w).alloc _
    exact ⟨h.kept hk (fun h => h) (fun _ _ h => h), (Kept.refl _ w).alloc _, fun j hj => .inl hj, heap_alloc_new w _⟩
  have hrow : ∀ wr, Kept (fun j => j = p ∨ v.ownBlock = some j) w wr → ∀ k, k < ys.length → ∃ g, ao = some ⟨g, 0, none⟩ ∧ wr.cell? ⟨g, k, none⟩ = some (.int .i64 (ys.getD k 0)) := by
    intro wr hk k hlt
    have ho := hk.owns hu (by
      intro j hj hs
      rcases hs with e | e
      · exact own_ne hu h.blk (e ▸ hj)
      · exact hne j hj e)
    obtain ⟨g, cap, e⟩ : ∃ g cap, Value.slice ao ys.length c = .slice (some ⟨g, 0, none⟩) ys.length cap := by
      rcases ho.2 with ⟨_, hh⟩ | ⟨g', cap', cur, hh, _⟩
      · omega
      · exact ⟨g', cap', hh⟩
    simp at e
    obtain ⟨e1, e2⟩ := e
    refine ⟨g, e1, ?_⟩
    rw [e1] at ho
    rw [ho.cellAt k (by omega), ints_get ys k hlt]
  have HR : Hid (∀ wr, Kept (fun j => j = p ∨ v.ownBlock = some j) w wr → ∀ k, k < ys.length → ∃ g, ao = some ⟨g, 0, none⟩ ∧ wr.cell? ⟨g, k, none⟩ = some (.int .i64 (ys.getD k 0))) := hrow
  clear hrow hu hne h
  obtain ⟨L, hL⟩ : ∃ L, L = ys.length := ⟨_, rfl⟩
  rw [← hL] at M0 HR hy ⊢
  clear hL
  go_enter Try.func13, Try.ntmps13
  go_wp2
  go_loopw [9] (fun i wr => ∃ (k : Nat) (v1 : Value), k ≤ L ∧ i = .int .i64 k ∧ Mg base w p v xs ys f0 f1 f2 f3 f4 (.cells #[.slice ao L c, .int .i64 g0, .int .i64 g1, .int .i64 g2, .int .i64 g3, .int .i64 g4] 35 (0, 0)) k v1 wr) (fun i _ => L - (intOf i).toNat)
  case atStart => exact ⟨0, v, Nat.zero_le _, rfl, M0⟩
  case round =>
    obtain ⟨k, v1, hk, rfl, M⟩ := hrel
    clear M0
    by_cases hlt : k < L
    · obtain ⟨g, hg, hcell⟩ := HR.out wr M.kept k hlt
      subst hg
      have hlt' : (k : Int) < (L : Int) := by omega
      have hml := mrg_length xs ys k
      have hsz := M.kept.size
      have hc := count_any base wr p v1 (mrg xs ys k) f0 f1 f2 f3 f4 k (ys.getD k 0) M.st (by omega) (by omega) (by omega)
      have HC : Hid (Calls Try.prog 14 #[.pointer (some ⟨p, 0, none⟩), .int .i64 k, .int .i64 (ys.getD k 0)] wr fun e w' => e = .returned (.tuple #[]) ∧ ∃ v', St base w' p v' (bump (mrg xs ys k) k (ys.getD k 0)) f0 f1 f2 f3 f4 ∧ Kept (fun j => j = p ∨ v1.ownBlock = some j) wr w' ∧ ∀ j, v'.ownBlock = some j → v1.ownBlock = some j ∨ wr.heap.size ≤ j) := hc
      have HM : Hid (Mg base w p v xs ys f0 f1 f2 f3 f4 (.cells #[.slice (some ⟨g, 0, none⟩) L c, .int .i64 g0, .int .i64 g1, .int .i64 g2, .int .i64 g3, .int .i64 g4] 35 (0, 0)) k v1 wr) := M
      clear hc M hml hsz
      have HY : Hid (∃ y, ys.getD k 0 = y) := ⟨_, rfl⟩
      obtain ⟨y, hy'⟩ := HY.out
      rw [hy'] at hcell HC
      have HY2 : Hid (ys.getD k 0 = y) := hy'
      clear hy' HY
      go_wp2_with (go_at_call 14; refine HC.out.mono ?_; rintro e w' ⟨rfl, v', h1, h2, h3⟩)
      have M' := HM.out.step hp (HY2.out ▸ h1) h2 h3
      go_roundw
      case rel => exact ⟨k + 1, v', by omega, by go_num, M'⟩
      case measure => simp [intOf]; omega
    · have hkL : k = L := by omega
      subst hkL
      clear HR
      have HM : Hid (Mg base w p v xs ys f0 f1 f2 f3 f4 (.cells #[.slice ao k c, .int .i64 g0, .int .i64 g1, .int .i64 g2, .int .i64 g3, .int .i64 g4] 35 (0, 0)) k v1 wr) := M
      have c1 : wr.cell? ⟨p, 1, none⟩ = some (.int .i64 f0) := by rw [cell_of_row wr p 1 _ _ _ M.st.blk]; rfl
      have c2 : wr.cell? ⟨p, 2, none⟩ = some (.int .i64 f1) := by rw [cell_of_row wr p 2 _ _ _ M.st.blk]; rfl
      have c3 : wr.cell? ⟨p, 3, none⟩ = some (.int .i64 f2) := by rw [cell_of_row wr p 3 _ _ _ M.st.blk]; rfl
      have c4 : wr.cell? ⟨p, 4, none⟩ = some (.int .i64 f3) := by rw [cell_of_row wr p 4 _ _ _ M.st.blk]; rfl
      have c5 : wr.cell? ⟨p, 5, none⟩ = some (.int .i64 f4) := by rw [cell_of_row wr p 5 _ _ _ M.st.blk]; rfl
      have fz : ∀ j, wr.frozen? ⟨p, j, none⟩ = false := fun j => frozen_of_row wr p j _ _ M.st.blk
      have d1 : wr.cell? ⟨w.heap.size, 1, none⟩ = some (.int .i64 g0) := by rw [cell_of_row wr _ 1 _ _ _ M.box]; rfl
      have d2 : wr.cell? ⟨w.heap.size, 2, none⟩ = some (.int .i64 g1) := by rw [cell_of_row wr _ 2 _ _ _ M.box]; rfl
      have d3 : wr.cell? ⟨w.heap.size, 3, none⟩ = some (.int .i64 g2) := by rw [cell_of_row wr _ 3 _ _ _ M.box]; rfl
      have d4 : wr.cell? ⟨w.heap.size, 4, none⟩ = some (.int .i64 g3) := by rw [cell_of_row wr _ 4 _ _ _ M.box]; rfl
      have d5 : wr.cell? ⟨w.heap.size, 5, none⟩ = some (.int .i64 g4) := by rw [cell_of_row wr _ 5 _ _ _ M.box]; rfl
      have hnq : p ≠ w.heap.size := by omega
      have hnq' : w.heap.size ≠ p := by omega
      clear M hx hy hbase hk hlt
      go_wp2
      go_region
      go_wp2
      go_region
      go_wp2
      go_region
      go_wp2
      go_region
      go_wp2
      go_region
      go_wp2
      go_end0
      exact ⟨rfl, HM.out.fin _ _ _ _ _⟩

/-! ### ZZMerge -/
theorem zmerge_any (base : Nat) (w : World) (p q : Nat) (v : Value) (xs : List Int) (f0 f1 f2 f3 f4 : Int) (base2 : Nat) (u : Value) (ys : List Int) (g0 g1 g2 g3 g4 : Int)
    (h : St base w p v xs f0 f1 f2 f3 f4) (hu : St base2 w q u ys g0 g1 g2 g3 g4) (hne : ∀ k, u.ownBlock = some k → v.ownBlock ≠ some k)
    (hx : xs.length ≤ 1048576) (hy : ys.length ≤ 1048576) (hbase : base ≤ w.heap.size) :
    Calls Try.prog 8 #[.pointer (some ⟨p, 0, none⟩), .pointer (some ⟨q, 0, none⟩)] w fun e w' => e = .returned (.tuple #[]) ∧
      ∃ v', St base w' p v' (mrg xs ys ys.length) (wrap64 (f0 + g0)) (wrap64 (f1 + g1)) (wrap64 (f2 + g2)) (wrap64 (f3 + g3)) (wrap64 (f4 + g4)) ∧ Kept (fun j => j = p ∨ v.ownBlock = some j) w w' ∧ ∀ j, v'.ownBlock = some j → v.ownBlock = some j ∨ w.heap.size ≤ j := by
  obtain ⟨ao, c, hv⟩ : ∃ ao c, u = .slice ao ys.length c := by
    rcases hu.own.2 with ⟨e, hh⟩ | ⟨g', cap', cur, hh, _⟩
    · exact ⟨none, 0, by rw [hh]; exact e⟩
    · exact ⟨_, cap', hh⟩
  subst hv
  have d0 : w.cell? ⟨q, 0, none⟩ = some (.slice ao ys.length c) := by rw [cell_of_row w q 0 _ _ _ hu.blk]; rfl
  have d1 : w.cell? ⟨q, 1, none⟩ = some (.int .i64 g0) := by rw [cell_of_row w q 1 _ _ _ hu.blk]; rfl
  have d2 : w.cell? ⟨q, 2, none⟩ = some (.int .i64 g1) := by rw [cell_of_row w q 2 _ _ _ hu.blk]; rfl
  have d3 : w.cell? ⟨q, 3, none⟩ = some (.int .i64 g2) := by rw [cell_of_row w q 3 _ _ _ hu.blk]; rfl
  have d4 : w.cell? ⟨q, 4, none⟩ = some (.int .i64 g3) := by rw [cell_of_row w q 4 _ _ _ hu.blk]; rfl
  have d5 : w.cell? ⟨q, 5, none⟩ = some (.int .i64 g4) := by rw [cell_of_row w q 5 _ _ _ hu.blk]; rfl
  go_enter Try.func8, Try.ntmps8
  go_wp2_with (go_at_call 13; refine (merge_any base w p v xs f0 f1 f2 f3 f4 base2 ao c ys g0 g1 g2 g3 g4 h hu.own hne hx hy hbase).mono ?_; rintro e w' ⟨rfl, v', h1, h2, h3⟩)
  go_end0
  exact ⟨rfl, v', h1, h2, h3⟩

/-! ### ZZFields -/
theorem zfields_any (w : World) (p : Nat) (ao : Option Addr) (n c : Nat) (f0 f1 f2 f3 f4 : Int) (hb : w.heap[p]? = some (.cells #[.slice ao n c, .int .i64 f0, .int .i64 f1, .int .i64 f2, .int .i64 f3, .int .i64 f4] 35 (0, 0))) :
    Calls Try.prog 9 #[.pointer (some ⟨p, 0, none⟩)] w fun e w' => e = .returned (.tuple #[.slice ao n c, .agg #[.int .i64 f0, .int .i64 f1, .int .i64 f2, .int .i64 f3, .int .i64 f4]]) ∧ w' = (w.alloc (.cells #[.int .i64 f0, .int .i64 f1, .int .i64 f2, .int .i64 f3, .int .i64 f4] 23)).drew := by
  have hp := lt_of_block hb
  have d0 : w.cell? ⟨p, 0, none⟩ = some (.slice ao n c) := by rw [cell_of_row w p 0 _ _ _ hb]; rfl
  have d1 : w.cell? ⟨p, 1, none⟩ = some (.int .i64 f0) := by rw [cell_of_row w p 1 _ _ _ hb]; rfl
  have d2 : w.cell? ⟨p, 2, none⟩ = some (.int .i64 f1) := by rw [cell_of_row w p 2 _ _ _ hb]; rfl
  have d3 : w.cell? ⟨p, 3, none⟩ = some (.int .i64 f2) := by rw [cell_of_row w p 3 _ _ _ hb]; rfl
  have d4 : w.cell? ⟨p, 4, none⟩ = some (.int .i64 f3) := by rw [cell_of_row w p 4 _ _ _ hb]; rfl
  have d5 : w.cell? ⟨p, 5, none⟩ = some (.int .i64 f4) := by rw [cell_of_row w p 5 _ _ _ hb]; rfl
  clear hb
  go_enter Try.func9, Try.ntmps9
  go_wp2
  go_region_held3 (fun w' => w'.cell? ⟨p, 0, none⟩ = some (.slice ao n c) ∧ w'.cell? ⟨p, 1, none⟩ = some (.int .i64 f0) ∧ w'.cell? ⟨p, 2, none⟩ = some (.int .i64 f1) ∧ w'.cell? ⟨p, 3, none⟩ = some (.int .i64 f2) ∧ w'.cell? ⟨p, 4, none⟩ = some (.int .i64 f3) ∧ w'.cell? ⟨p, 5, none⟩ = some (.int .i64 f4)) (simp [go_sem, World.cell?_alloc_past, *]) (fail)
  go_wp2
  exact bodyPost_ret (v := .tuple #[.slice ao n c, .agg #[.int .i64 f0, .int .i64 f1, .int .i64 f2, .int .i64 f3, .int .i64 f4]]) (by simp [results, Try.results9, go_sem]) rfl ⟨rfl, rfl⟩
end Go.Proofs.Qxb6618405a
