/-
  THE PLAIN LAWS: what merge makes of two rows is their pointwise sum. And the contracts in the form in which the two laws use them.
-/
import Derived.Test.Qxb6618405aWalkC
namespace Go.Proofs.Qxb6618405a
open Go.RowKit
set_option linter.unusedVariables false

/-- Each number fits an int. -/
def InR (xs : List Int) : Prop := ∀ j, wrap64 (xs.getD j 0) = xs.getD j 0

/-- The pointwise sum; a missing number counts 0. -/
def sum2 (xs ys : List Int) : List Int := (List.range (max xs.length ys.length)).map fun j => wrap64 (xs.getD j 0 + ys.getD j 0)

theorem wrap64_zero : wrap64 0 = 0 := by unfold wrap64; omega
theorem wrap64_wrap64 (x : Int) : wrap64 (wrap64 x) = wrap64 x := by unfold wrap64; omega

theorem getD_ext {xs ys : List Int} (hl : xs.length = ys.length) (h : ∀ j, j < xs.length → xs.getD j 0 = ys.getD j 0) : xs = ys := by
  apply List.ext_getElem hl
  intro j h1 h2
  have := h j h1
  simpa [List.getD, h1, h2] using this

theorem bump_getD (xs : List Int) (k : Nat) (n : Int) (h : k ≤ xs.length) (j : Nat) : (bump xs k n).getD j 0 = if j = k then wrap64 (xs.getD k 0 + n) else xs.getD j 0 := by
  unfold bump
  by_cases hk : k < xs.length
  · simp only [if_pos hk]
    by_cases hj : j = k
    · subst hj; simp [List.getD, hk]
    · simp [List.getD, Ne.symm hj, hj]
  · have e : k = xs.length := by omega
    simp only [if_neg hk]
    by_cases hj : j = k
    · subst hj; subst e; simp [List.getD]
    · simp only [List.getD, List.getElem?_set, if_neg (Ne.symm hj), if_neg hj]
      rcases Nat.lt_trichotomy j xs.length with h1 | h1 | h1
      · rw [List.getElem?_append_left h1]
      · omega
      · rw [List.getElem?_append_right (by omega), List.getElem?_eq_none (by simp; omega), List.getElem?_eq_none (by omega)]

theorem mrg_getD (xs ys : List Int) (k j : Nat) : (mrg xs ys k).getD j 0 = if j < k then wrap64 (xs.getD j 0 + ys.getD j 0) else xs.getD j 0 := by
  induction k with
  | zero => simp [mrg]
  | succ k ih =>
    rw [mrg, bump_getD _ _ _ (by rw [mrg_length]; omega)]
    by_cases hj : j = k
    · subst hj
      rw [if_pos rfl, if_pos (by omega), ih, if_neg (by omega)]
    · rw [if_neg hj, ih]
      by_cases h1 : j < k
      · rw [if_pos h1, if_pos (by omega)]
      · rw [if_neg h1, if_neg (by omega)]

theorem sum2_length (xs ys : List Int) : (sum2 xs ys).length = max xs.length ys.length := by simp [sum2]

theorem getD_out (xs : List Int) (j : Nat) (h : xs.length ≤ j) : xs.getD j 0 = 0 := by simp [List.getD, List.getElem?_eq_none h]

theorem sum2_getD (xs ys : List Int) (j : Nat) : (sum2 xs ys).getD j 0 = wrap64 (xs.getD j 0 + ys.getD j 0) := by
  by_cases h : j < max xs.length ys.length
  · simp [sum2, List.getD, h]
  · rw [getD_out _ j (by rw [sum2_length]; omega), getD_out xs j (by omega), getD_out ys j (by omega)]
    exact wrap64_zero.symm

theorem InR_sum2 (xs ys : List Int) : InR (sum2 xs ys) := by
  intro j
  rw [sum2_getD, wrap64_wrap64]

theorem mrg_full (xs ys : List Int) (hx : InR xs) : mrg xs ys ys.length = sum2 xs ys := by
  apply getD_ext
  · rw [mrg_length, sum2_length]
  · intro j hj
    rw [mrg_getD, sum2_getD]
    by_cases h : j < ys.length
    · rw [if_pos h]
    · rw [if_neg h, getD_out ys j (by omega), Int.add_zero]
      exact (hx j).symm

theorem sum2_comm (xs ys : List Int) : sum2 xs ys = sum2 ys xs := by
  apply getD_ext
  · rw [sum2_length, sum2_length]; omega
  · intro j _
    rw [sum2_getD, sum2_getD, Int.add_comm]

theorem wrap_assoc (a b c : Int) : wrap64 (wrap64 (a + b) + c) = wrap64 (a + wrap64 (b + c)) := by unfold wrap64; omega

theorem sum2_assoc (xs ys zs : List Int) : sum2 (sum2 xs ys) zs = sum2 xs (sum2 ys zs) := by
  apply getD_ext
  · simp only [sum2_length]; omega
  · intro j _
    simp only [sum2_getD, wrap_assoc]

theorem InR_of_wf (xs : List Int) (h : ∀ n ∈ xs, (Lit.int .i64 n).wf = true) : InR xs := by
  intro j
  by_cases hj : j < xs.length
  · have hm := h (xs.getD j 0) (by simp [List.getD, hj])
    generalize xs.getD j 0 = x at hm
    have hb : -9223372036854775808 ≤ x ∧ x ≤ 9223372036854775807 := by
      have e : IntKind.i64.min = -9223372036854775808 := by decide
      simp [Lit.wf] at hm
      rw [e] at hm
      exact hm
    unfold wrap64; omega
  · rw [getD_out xs j (by omega)]; exact wrap64_zero

/-! ### the contracts, over rows that the call owns -/
theorem row_form {w : World} {base n : Nat} {v : Value} {xs : List Value} (h : w.ownsRow base 3 1 v n xs) : ∃ ao c, v = .slice ao n c := by
  rcases h.2 with ⟨e, hh⟩ | ⟨g', cap', cur, hh, _⟩
  · exact ⟨none, 0, by rw [hh]; exact e⟩
  · exact ⟨_, cap', hh⟩

theorem clone_own (ao : Option Addr) (n c b0 : Nat) (xs : List Int) (w : World) (h : w.ownsRow b0 3 1 (.slice ao n c) n (ints xs)) (hx : xs.length = n) (hn : n ≤ 1048576) :
    Calls Try.prog 6 #[.slice ao n c] w fun e w' => ∃ ao' c', e = .returned (.slice ao' n c') ∧ w'.ownsRow w.heap.size 3 1 (.slice ao' n c') n (ints xs) ∧ w.grownBy w' none := by
  rcases h.2 with ⟨e, hh⟩ | ⟨g', cap', cur, hh, _⟩
  · simp at e
    obtain ⟨rfl, rfl, rfl⟩ := e
    refine (clone_nil 0 0 w).mono ?_
    rintro e w' ⟨rfl, rfl⟩
    have : xs = [] := List.eq_nil_of_length_eq_zero hx
    subst this
    exact ⟨none, 0, rfl, World.ownsRow_nil _ _ _ _, World.grownBy.refl _ _⟩
  · simp at hh
    obtain ⟨rfl, rfl⟩ := hh
    refine (clone_some ⟨g', 0, none⟩ n c xs w w.heap.size (Nat.le_refl _) hx hn ?_).mono ?_
    · intro j hj
      rw [Addr.add_lit, Nat.zero_add, h.cellAt j (by omega), ints_get xs j (by omega)]
    · rintro e w' ⟨rfl, h1, h2⟩
      exact ⟨_, _, rfl, h1, h2⟩

theorem at_own (ao : Option Addr) (n c b0 k : Nat) (xs : List Int) (w : World) (h : w.ownsRow b0 3 1 (.slice ao n c) n (ints xs)) (hx : xs.length = n) :
    Calls Try.prog 10 #[.slice ao n c, .int .i64 k] w fun e w' => e = .returned (.int .i64 (xs.getD k 0)) ∧ w' = w := by
  by_cases hk : k < n
  · rcases h.2 with ⟨e, hh⟩ | ⟨g', cap', cur, hh, _⟩
    · omega
    · simp at hh
      obtain ⟨rfl, rfl⟩ := hh
      exact at_in g' n c k _ w hk (by rw [h.cellAt k (by omega), ints_get xs k (by omega)])
  · rw [getD_out xs k (by omega)]
    exact at_out ao n c k w (by omega)

theorem same_own (a a' : Option Addr) (n c c' b0 b1 : Nat) (xs : List Int) (w : World) (h : w.ownsRow b0 3 1 (.slice a n c) n (ints xs)) (h' : w.ownsRow b1 3 1 (.slice a' n c') n (ints xs)) (hn : n ≤ 1048576) (hx : xs.length = n) :
    Calls Try.prog 11 #[.slice a n c, .slice a' n c'] w fun e w' => e = .returned (.bool true) ∧ ∃ m, w' = w.drewN m := by
  refine same_yes a a' n c c' xs w hn hx ?_ ?_
  · intro h0
    rcases h.2 with ⟨e, hh⟩ | ⟨g', cap', cur, hh, _⟩
    · omega
    · simp at hh
      obtain ⟨rfl, rfl⟩ := hh
      exact ⟨g', rfl, fun k hk => by rw [h.cellAt k (by omega), ints_get xs k (by omega)]⟩
  · intro h0
    rcases h'.2 with ⟨e, hh⟩ | ⟨g', cap', cur, hh, _⟩
    · omega
    · simp at hh
      obtain ⟨rfl, rfl⟩ := hh
      exact ⟨g', rfl, fun k hk => by rw [h'.cellAt k (by omega), ints_get xs k (by omega)]⟩

/-- WHAT THE WALK IS TOLD OF A SLICE OF INTEGERS THAT CAME IN: it is nil; or it leads to a row of 'cap' cells, the numbers 'zs' (the first 'len' are its elements, the rest its spare room), each fitting its kind. -/
def IsRow (k : IntKind) (w : World) (a : Option Addr) (len cap : Nat) (zs : List Int) : Prop :=
  (a = none ∧ len = 0 ∧ cap = 0 ∧ zs = []) ∨
  ∃ x, a = some x ∧ len ≤ cap ∧ cap ≤ maxLen ∧ zs.length = cap ∧ (∀ i, i < zs.length → w.cell? (x.add i) = some (.int k (zs.getD i 0))) ∧ ∀ n ∈ zs, (Lit.int k n).wf = true

theorem isRow_take {w : World} {a : Option Addr} {len cap : Nat} {zs : List Int} (h : IsRow .i64 w a len cap zs) : (zs.take len).length = len ∧ InR (zs.take len) := by
  rcases h with ⟨_, rfl, _, rfl⟩ | ⟨x, _, h1, _, h3, _, h5⟩
  · exact ⟨rfl, fun j => by simp [wrap64_zero]⟩
  · exact ⟨by simp; omega, InR_of_wf _ fun n hn => h5 n (List.mem_of_mem_take hn)⟩

/-- A clone of an argument; w1: the world at the call, in which what was there before reads as it did. -/
theorem clone_arg (a : Option Addr) (len cap : Nat) (zs : List Int) (w w1 : World) (h : IsRow .i64 w a len cap zs) (hb : Below w.heap.size w w1) (hn : len ≤ 1048576) :
    Calls Try.prog 6 #[.slice a len cap] w1 fun e w' => ∃ ao' c', e = .returned (.slice ao' len c') ∧ w'.ownsRow w1.heap.size 3 1 (.slice ao' len c') len (ints (zs.take len)) ∧ w1.grownBy w' none := by
  have ht := isRow_take h
  rcases h with ⟨rfl, rfl, rfl, rfl⟩ | ⟨x, rfl, h1, h2, h3, h4, h5⟩
  · refine (clone_nil 0 0 w1).mono ?_
    rintro e w' ⟨rfl, rfl⟩
    exact ⟨none, 0, rfl, World.ownsRow_nil _ _ _ _, World.grownBy.refl _ _⟩
  · refine (clone_some x len cap (zs.take len) w1 w1.heap.size (Nat.le_refl _) ht.1 hn ?_).mono ?_
    · intro j hj
      have hc := h4 j (by omega)
      have hlt : (x.add j).block < w.heap.size := World.block_lt_of_cell? w _ hc
      rw [hb.cell hlt, hc]
      simp [List.getD, hj]
    · rintro e w' ⟨rfl, g1, g2⟩
      exact ⟨_, _, rfl, g1, g2⟩
end Go.Proofs.Qxb6618405a
