/-
  count: one number is added to one place of a stats' row, which grows by one where the place is the first behind its end.
-/
import Derived.Test.Qxb6618405aWalkA
import Derived.Deep.RegionHeld3
import Derived.OneCell
import Derived.StillTactics
import Derived.Laws.Pointers
namespace Go.Proofs.Qxb6618405a
open Go.RowKit
set_option linter.unusedVariables false

/-- w' is w with new blocks, and with writes to blocks of S alone. -/
structure Kept (S : Nat → Prop) (w w' : World) : Prop where
  os : w'.os = w.os
  tape : w'.tape = w.tape
  output : w'.output = w.output
  size : w.heap.size ≤ w'.heap.size
  block : ∀ k, k < w.heap.size → ¬ S k → w'.heap[k]? = w.heap[k]?

theorem Kept.refl (S : Nat → Prop) (w : World) : Kept S w w := ⟨rfl, rfl, rfl, Nat.le_refl _, fun _ _ _ => rfl⟩
theorem Kept.trans {S S' : Nat → Prop} {a b c : World} (h : Kept S a b) (k : Kept S' b c) (hs : ∀ j, j < a.heap.size → S' j → S j) : Kept S a c :=
  ⟨k.os.trans h.os, k.tape.trans h.tape, k.output.trans h.output, Nat.le_trans h.size k.size,
   fun j hj hn => (k.block j (Nat.lt_of_lt_of_le hj h.size) (fun hs' => hn (hs j hj hs'))).trans (h.block j hj hn)⟩
theorem Kept.drew {S : Nat → Prop} {a w : World} (h : Kept S a w) : Kept S a w.drew := ⟨h.os, h.tape, h.output, h.size, h.block⟩
theorem Kept.drewN {S : Nat → Prop} {a w : World} (h : Kept S a w) (n : Nat) : Kept S a (w.drewN n) := ⟨h.os, h.tape, h.output, h.size, h.block⟩
theorem Kept.of_drew {S : Nat → Prop} {a w : World} (h : Kept S a.drew w) : Kept S a w := ⟨h.os, h.tape, h.output, h.size, h.block⟩
theorem Kept.alloc {S : Nat → Prop} {a w : World} (h : Kept S a w) (o : Obj) : Kept S a (w.alloc o) :=
  h.trans (S' := fun _ => False) ⟨rfl, rfl, rfl, by simp, fun k hk _ => Below.heap_alloc w o k hk⟩ (fun _ _ h => h.elim)
theorem Kept.setCell {S : Nat → Prop} {a w : World} (h : Kept S a w) {p : Addr} (hp : p.block < a.heap.size → S p.block) (u : Value) : Kept S a (w.setCell p u) :=
  h.trans (S' := fun j => j = p.block) ⟨rfl, rfl, rfl, by simp, fun k _ hk => heap_setCell_other w p k u hk⟩ (fun _ hj e => e ▸ hp (e ▸ hj))
theorem Kept.grown {S : Nat → Prop} {a w w' : World} {row : Option Nat} (h : Kept S a w) (hg : w.grownBy w' row) (hr : ∀ k, row = some k → k < a.heap.size → S k) : Kept S a w' :=
  h.trans (S' := fun j => row = some j) ⟨hg.os, hg.tape, hg.output, hg.size, fun k hk hn => hg.block k hk (fun e => hn e.symm)⟩ (fun j hj e => hr j e hj)
theorem Kept.below {S : Nat → Prop} {w w' : World} (h : Kept S w w') (hs : ∀ j, j < w.heap.size → ¬ S j) : Below w.heap.size w w' :=
  ⟨h.os, h.tape, h.output, h.size, fun k hk => h.block k hk (hs k hk)⟩
theorem Kept.heap {S : Nat → Prop} {w w' : World} (h : Kept S w w') {k : Nat} {o : Obj} (ho : w.heap[k]? = some o) (hn : ¬ S k) : w'.heap[k]? = some o :=
  (h.block k (lt_of_block ho) hn).trans ho
theorem Kept.owns {S : Nat → Prop} {w w' : World} {base : Nat} {e : TypeId} {size : Nat} {v : Value} {n : Nat} {xs : List Value} (h : Kept S w w') (ho : w.ownsRow base e size v n xs) (hn : ∀ k, v.ownBlock = some k → ¬ S k) : w'.ownsRow base e size v n xs := by
  obtain ⟨h1, h2⟩ := ho
  refine ⟨h1, ?_⟩
  rcases h2 with h2 | ⟨g, cap, cur, rfl, hg, hh, r⟩
  · exact .inl h2
  · exact .inr ⟨g, cap, cur, rfl, hg, h.heap hh (hn g rfl), r⟩

/-- A stats at block p: its slice v owns the numbers xs. -/
structure St (base : Nat) (w : World) (p : Nat) (v : Value) (xs : List Int) (f0 f1 f2 f3 f4 : Int) : Prop where
  blk : w.heap[p]? = some (.cells #[v, .int .i64 f0, .int .i64 f1, .int .i64 f2, .int .i64 f3, .int .i64 f4] 35 (0, 0))
  own : w.ownsRow base 3 1 v xs.length (ints xs)

section
variable {base : Nat} {w w' : World} {p : Nat} {v : Value} {xs : List Int} {f0 f1 f2 f3 f4 : Int}
theorem St.ne (h : St base w p v xs f0 f1 f2 f3 f4) : v.ownBlock ≠ some p := by
  intro e
  rcases h.own.2 with ⟨rfl, _⟩ | ⟨g, cap, cur, rfl, hg, hh, r⟩
  · simp [Value.ownBlock] at e
  · simp [Value.ownBlock] at e
    subst e
    rw [h.blk] at hh
    simp at hh
theorem St.kept {S : Nat → Prop} (h : St base w p v xs f0 f1 f2 f3 f4) (hk : Kept S w w') (hp : ¬ S p) (hv : ∀ k, v.ownBlock = some k → ¬ S k) : St base w' p v xs f0 f1 f2 f3 f4 :=
  ⟨hk.heap h.blk hp, hk.owns h.own hv⟩
end

/-- What count makes of a row. -/
def bump (xs : List Int) (k : Nat) (n : Int) : List Int := (if k < xs.length then xs else xs ++ [0]).set k (wrap64 ((if k < xs.length then xs else xs ++ [0]).getD k 0 + n))

theorem ints_get (xs : List Int) (k : Nat) (h : k < xs.length) : (ints xs)[k]? = some (.int .i64 (xs.getD k 0)) := by simp [ints, List.getD, h]
theorem ints_set (xs : List Int) (k : Nat) (x : Int) : (ints xs).set k (.int .i64 x) = ints (xs.set k x) := by simp [ints, List.map_set]

/-- The number is stored into the row. -/
theorem St.stored {base : Nat} {w : World} {p g n cap : Nat} {xs : List Int} {f0 f1 f2 f3 f4 : Int} (h : St base w p (.slice (some ⟨g, 0, none⟩) n cap) xs f0 f1 f2 f3 f4) (k : Nat) (x : Int) :
    St base (w.setCell ⟨g, k, none⟩ (.int .i64 x)) p (.slice (some ⟨g, 0, none⟩) n cap) (xs.set k x) f0 f1 f2 f3 f4 := by
  have hne := h.ne
  have hn : n = xs.length := by
    rcases h.own.2 with ⟨hh, _⟩ | ⟨g', cap', cur, hh, _⟩
    · simp at hh
    · simp at hh; exact hh.2.1
  subst hn
  have h1 := (h.own.stored k (.int .i64 x)).1
  rw [ints_set] at h1
  refine ⟨?_, by simpa using h1⟩
  rw [heap_setCell_other _ _ _ _ (by simp [Value.ownBlock] at hne; simp; omega)]
  exact h.blk

set_option maxHeartbeats 400000 in
theorem count_low (base : Nat) (w : World) (p : Nat) (v : Value) (xs : List Int) (f0 f1 f2 f3 f4 : Int) (k : Nat) (n : Int) (h : St base w p v xs f0 f1 f2 f3 f4) (hk : k < xs.length) (hl : xs.length ≤ 1048576) :
    Calls Try.prog 14 #[.pointer (some ⟨p, 0, none⟩), .int .i64 k, .int .i64 n] w fun e w' => e = .returned (.tuple #[]) ∧ St base w' p v (bump xs k n) f0 f1 f2 f3 f4 ∧ Kept (fun j => j = p ∨ v.ownBlock = some j) w w' := by
  obtain ⟨g, cap, hv⟩ : ∃ g cap, v = .slice (some ⟨g, 0, none⟩) xs.length cap := by
    rcases h.own.2 with ⟨_, hh⟩ | ⟨g', cap', cur, hh, _⟩
    · omega
    · exact ⟨g', cap', hh⟩
  subst hv
  obtain ⟨x, hx⟩ : ∃ x, xs.getD k 0 = x := ⟨_, rfl⟩
  have c0 : w.cell? ⟨p, 0, none⟩ = some (.slice (some ⟨g, 0, none⟩) xs.length cap) := by rw [cell_of_row w p 0 _ _ _ h.blk]; rfl
  have c1 : w.cell? ⟨g, k, none⟩ = some (.int .i64 x) := by rw [h.own.cellAt k (by omega), ints_get xs k hk, hx]
  have c2 := h.own.frozenAt k
  have hb : bump xs k n = xs.set k (wrap64 (x + n)) := by simp only [bump, if_pos hk, hx]
  have R := h.stored k (wrap64 (x + n))
  have RK : Kept (fun j => j = p ∨ (Value.slice (some ⟨g, 0, none⟩) xs.length cap).ownBlock = some j) w (w.setCell ⟨g, k, none⟩ (.int .i64 (wrap64 (x + n)))) := (Kept.refl _ w).setCell (fun _ => .inr rfl) _
  have HB : Hid (bump xs k n = xs.set k (wrap64 (x + n))) := hb
  clear hb hx h
  obtain ⟨L, hL⟩ : ∃ L, L = xs.length := ⟨_, rfl⟩
  rw [← hL] at c0 R RK hk hl ⊢
  clear hL
  have hk' : (k : Int) < (L : Int) := by omega
  go_enter Try.func14, Try.ntmps14
  go_wp2
  go_end0
  rw [HB.out]
  exact ⟨rfl, R, RK⟩

/-- Behind the append: the new slice is stored into the field. -/
theorem St.moved {base : Nat} {w w1 : World} {p g n cap : Nat} {v : Value} {xs ys : List Int} {f0 f1 f2 f3 f4 : Int} (h : St base w p v xs f0 f1 f2 f3 f4) (hn : ys.length = n) (hown : w1.ownsRow base 3 1 (.slice (some ⟨g, 0, none⟩) n cap) n (ints ys))
    (hgr : w.grownBy w1 v.ownBlock) (hat : v.ownBlock = some g ∨ g = w.heap.size) :
    St base (w1.setCell ⟨p, 0, none⟩ (.slice (some ⟨g, 0, none⟩) n cap)) p (.slice (some ⟨g, 0, none⟩) n cap) ys f0 f1 f2 f3 f4 ∧ Kept (fun j => j = p ∨ v.ownBlock = some j) w (w1.setCell ⟨p, 0, none⟩ (.slice (some ⟨g, 0, none⟩) n cap)) := by
  subst hn
  have hne := h.ne
  have hp := lt_of_block h.blk
  have hb : w1.heap[p]? = some (.cells #[v, .int .i64 f0, .int .i64 f1, .int .i64 f2, .int .i64 f3, .int .i64 f4] 35 (0, 0)) := (hgr.block p hp (fun e => hne e.symm)).trans h.blk
  have hgp : g ≠ p := by
    rcases hat with e | e
    · exact fun e' => hne (e' ▸ e)
    · omega
  refine ⟨⟨?_, ?_⟩, ?_⟩
  · rw [heap_setCell_same w1 p 0 _ _ _ hb]; rfl
  · exact ownsRow_setCell_other hown (by simp [Value.ownBlock]; exact hgp) _
  · exact ((Kept.refl _ w).grown hgr (fun k e _ => .inr e)).setCell (fun _ => .inl rfl) _

/-- The whole of count's second way, in one lemma. -/
theorem St.grew {base : Nat} {w w1 : World} {p g k cap : Nat} {v : Value} {xs : List Int} {f0 f1 f2 f3 f4 : Int} (h : St base w p v xs f0 f1 f2 f3 f4) (hk : k = xs.length) (n : Int) (hb : bump xs k n = (xs ++ [0]).set k (wrap64 (0 + n)))
    (hown : w1.ownsRow base 3 1 (.slice (some ⟨g, 0, none⟩) (k + 1) cap) (k + 1) (ints xs ++ [.int .i64 0])) (hgr : w.grownBy w1 v.ownBlock) (hat : v.ownBlock = some g ∨ g = w.heap.size) :
    (w1.setCell ⟨p, 0, none⟩ (.slice (some ⟨g, 0, none⟩) (k + 1) cap)).cell? ⟨p, 0, none⟩ = some (.slice (some ⟨g, 0, none⟩) (k + 1) cap) ∧
    (w1.setCell ⟨p, 0, none⟩ (.slice (some ⟨g, 0, none⟩) (k + 1) cap)).cell? ⟨g, k, none⟩ = some (.int .i64 0) ∧
    (w1.setCell ⟨p, 0, none⟩ (.slice (some ⟨g, 0, none⟩) (k + 1) cap)).frozen? ⟨g, k, none⟩ = false ∧
    ∃ v', St base ((w1.setCell ⟨p, 0, none⟩ (.slice (some ⟨g, 0, none⟩) (k + 1) cap)).setCell ⟨g, k, none⟩ (.int .i64 (wrap64 n))) p v' (bump xs k n) f0 f1 f2 f3 f4 ∧
      Kept (fun j => j = p ∨ v.ownBlock = some j) w ((w1.setCell ⟨p, 0, none⟩ (.slice (some ⟨g, 0, none⟩) (k + 1) cap)).setCell ⟨g, k, none⟩ (.int .i64 (wrap64 n))) ∧ ∀ j, v'.ownBlock = some j → v.ownBlock = some j ∨ w.heap.size ≤ j := by
  have e1 : ints xs ++ [.int .i64 0] = ints (xs ++ [0]) := by simp [ints]
  have hl : (xs ++ [0]).length = k + 1 := by simp [hk]
  rw [e1] at hown
  obtain ⟨R, RK⟩ := h.moved hl hown hgr hat
  have hs := R.stored k (wrap64 (0 + n))
  rw [← hb, Int.zero_add] at hs
  have ho := R.own
  rw [hl] at ho
  refine ⟨?_, ?_, ho.frozenAt k, _, hs, RK.setCell ?_ _, ?_⟩
  · rw [cell_of_row _ p 0 _ _ _ R.blk]; rfl
  · rw [ho.cellAt k (by omega), ints_get _ k (by omega)]
    subst hk
    simp [List.getD]
  · intro hg
    rcases hat with e | e
    · exact .inr e
    · simp at hg; omega
  · intro j hj
    simp [Value.ownBlock] at hj
    subst hj
    rcases hat with e | e
    · exact .inl e
    · exact .inr (by omega)

theorem wrap_one (k : Nat) (h : k ≤ 1048576) : Value.int .i64 (IntKind.i64.wrap (IntKind.i64.wrap ((k : Int) + 1) - k)) = .int .i64 1 := by
  have e : IntKind.i64.wrap (IntKind.i64.wrap ((k : Int) + 1) - k) = 1 := by
    simp only [IntKind.wrap_i64]
    omega
  rw [e]

set_option maxHeartbeats 1000000 in
theorem count_new (base : Nat) (w : World) (p : Nat) (v : Value) (xs : List Int) (f0 f1 f2 f3 f4 : Int) (k : Nat) (n : Int) (h : St base w p v xs f0 f1 f2 f3 f4) (hk : k = xs.length) (hl : xs.length ≤ 1048576) (hbase : base ≤ w.heap.size) :
    Calls Try.prog 14 #[.pointer (some ⟨p, 0, none⟩), .int .i64 k, .int .i64 n] w fun e w' => e = .returned (.tuple #[]) ∧ ∃ v', St base w' p v' (bump xs k n) f0 f1 f2 f3 f4 ∧ Kept (fun j => j = p ∨ v.ownBlock = some j) w w' ∧ ∀ j, v'.ownBlock = some j → v.ownBlock = some j ∨ w.heap.size ≤ j := by
  obtain ⟨i0, hi, hz0, hz1, hz2⟩ := info_parts info3
  obtain ⟨ao, cap0, hv⟩ : ∃ ao cap, v = .slice ao xs.length cap := by
    rcases h.own.2 with ⟨e, hh⟩ | ⟨g', cap', cur, hh, _⟩
    · exact ⟨none, 0, by rw [hh]; exact e⟩
    · exact ⟨_, cap', hh⟩
  have hb : bump xs k n = (xs ++ [0]).set k (wrap64 (0 + n)) := by
    have hnk : ¬ k < xs.length := by omega
    have e0 : (xs ++ [0]).getD k 0 = 0 := by subst hk; simp [List.getD]
    simp only [bump, if_neg hnk, e0]
  have c0 : w.cell? ⟨p, 0, none⟩ = some v := by rw [cell_of_row w p 0 _ _ _ h.blk]; rfl
  have hown := h.own
  have hne := h.ne
  have hp := lt_of_block h.blk
  have HH : Hid (St base w p v xs f0 f1 f2 f3 f4) := h
  have HB : Hid (bump xs k n = (xs ++ [0]).set k (wrap64 (0 + n))) := hb
  clear hb h
  rw [← hk] at hown hv hl
  have HK : Hid (k = xs.length) := hk
  clear hk
  subst hv
  have hf1 : w.frozen? ⟨p, 0, none⟩ = false := frozen_of_row w p 0 _ _ HH.out.blk
  have hl63 : (k : Int) ≤ 1048576 := by omega
  have HW : Hid (Value.int .i64 (IntKind.i64.wrap (IntKind.i64.wrap ((k : Int) + 1) - k)) = .int .i64 1) := wrap_one k hl
  go_enter Try.func14, Try.ntmps14
  go_wp2
  go_region_law (refine step_append_zero_own rfl (.tmp 17) (.tmp 25) 22 3 rfl base 3 .i64 i0 (.int .i64 0) 8 Try.underlying22 Try.underlying3 hi hz0 hz1 hz2 rfl rfl (by decide) (.slice ao k cap0) k (ints xs) rfl HW.out hown.drew (by unfold maxLen; omega) (by omega) hbase ?_; intro g cap w1 hown1 hgrow1 hat1; have k1 : w1.cell? ⟨p, 0, none⟩ = some (.slice ao k cap0) := hgrow1.cell (a := ⟨p, 0, none⟩) c0 (fun e => hne e.symm); have k2 : w1.frozen? ⟨p, 0, none⟩ = false := (World.frozen?_of_block (hgrow1.block p hp (fun e => hne e.symm))).trans hf1)
  all_goals
    obtain ⟨d1, d2, d3, R⟩ := HH.out.grew HK.out n HB.out hown1 ⟨hgrow1.os, hgrow1.tape, hgrow1.output, hgrow1.size, hgrow1.block⟩ hat1
    clear hown hown1 hgrow1 hat1 k1 k2 c0 hf1
    have hkk : (k : Int) < (k : Int) + 1 := by omega
    go_wp2
    go_end0
    exact ⟨rfl, R⟩
end Go.Proofs.Qxb6618405a
