/-
  THE SMALL CALLEES: cloneInts, at, sameInts, ZZStats, the two bounds on lengths.
-/
import Derived.Test.Qxb6618405aChecked
import Derived.Test.Qxb6618405aZero
import Derived.WalkKit
import Derived.WalkSpells
import Derived.Deep.QuietTactic
import Derived.BigQuiet
namespace Go.Proofs.Qxb6618405a
open Go.RowKit
set_option linter.unusedVariables false

theorem info3 : (Try.prog.info? 3).map (fun i => (i.zero, i.size, i.bytes)) = some (some (.int .i64 0), 1, 8) := by kernel_rfl

/-- The cells of a list of ints. -/
def ints (xs : List Int) : List Value := xs.map (Value.int .i64)

theorem ints_length (xs : List Int) : (ints xs).length = xs.length := by simp [ints]

/-- What is in a row while it is being copied. -/
def part (xs : List Int) (n k : Nat) : List Value := ints (xs.take k) ++ List.replicate (n - k) (.int .i64 0)

theorem part_zero (xs : List Int) (n : Nat) : part xs n 0 = List.replicate n (.int .i64 0) := by simp [part, ints]
theorem part_full (xs : List Int) (n : Nat) (h : xs.length = n) : part xs n n = ints xs := by simp [part, ints, List.take_of_length_le (Nat.le_of_eq h)]
theorem part_get (xs : List Int) (n k : Nat) (h : xs.length = n) (hk : k < n) : (part xs n k)[k]? = some (.int .i64 0) := by
  have hl : (ints (xs.take k)).length = k := by simp [ints]; omega
  unfold part
  rw [List.getElem?_append_right (by omega), hl, Nat.sub_self, List.getElem?_replicate, if_pos (by omega)]
theorem part_set (xs : List Int) (n k : Nat) (h : xs.length = n) (hk : k < n) : (part xs n k).set k (.int .i64 (xs.getD k 0)) = part xs n (k + 1) := by
  have hl : (ints (xs.take k)).length = k := by simp [ints]; omega
  have hd : xs.getD k 0 = xs[k]'(by omega) := by simp [List.getD, show k < xs.length by omega]
  have e1 : xs.take (k + 1) = xs.take k ++ [xs.getD k 0] := by rw [List.take_succ_eq_append_getElem (by omega), hd]
  unfold part
  rw [e1, List.set_append, if_neg (by omega), hl, Nat.sub_self, show n - k = (n - (k + 1)) + 1 from by omega, List.replicate_succ, List.set_cons_zero]
  simp only [ints, List.map_append, List.map_cons, List.map_nil, List.append_assoc, List.cons_append, List.nil_append]

theorem clone_nil (n c : Nat) (w : World) : Calls Try.prog 6 #[.slice none n c] w fun e w' => e = .returned (.slice none 0 0) ∧ w' = w := by
  have he := fun wx => Lib.run_eql_slice_nil (P := Try.prog) wx 22 3 none n c 0 0 Try.underlying22
  go_enter Try.func6, Try.ntmps6
  go_wp2
  go_ret
  exact ⟨rfl, rfl⟩

theorem round_step {w wr : World} {base g n k : Nat} {xs : List Int} (h : xs.length = n) (hk : k < n) (hg : w.heap.size ≤ g)
    (hown : wr.ownsRow base 3 1 (.slice (some ⟨g, 0, none⟩) n n) n (part xs n k)) (hgr : w.grownBy wr none) :
    (wr.setCell ⟨g, k, none⟩ (.int .i64 (xs.getD k 0))).ownsRow base 3 1 (.slice (some ⟨g, 0, none⟩) n n) n (part xs n (k + 1)) ∧ w.grownBy (wr.setCell ⟨g, k, none⟩ (.int .i64 (xs.getD k 0))) none := by
  have h1 := hown.stored k (.int .i64 (xs.getD k 0))
  rw [part_set xs n k h hk] at h1
  refine ⟨h1.1, ⟨hgr.os, hgr.tape, hgr.output, ?_, fun j hj _ => ?_⟩⟩
  · have := hgr.size; have := h1.2.size; omega
  · rw [h1.2.block j (by have := hgr.size; omega) (by simp; omega)]
    exact hgr.block j hj (by simp)

set_option maxHeartbeats 400000 in
theorem clone_some (ad : Addr) (n c : Nat) (xs : List Int) (w : World) (base : Nat) (hb : base ≤ w.heap.size) (hx : xs.length = n) (hn : n ≤ 1048576)
    (hc : ∀ j, j < n → w.cell? (ad.add j) = some (.int .i64 (xs.getD j 0))) :
    Calls Try.prog 6 #[.slice (some ad) n c] w fun e w' => e = .returned (.slice (some ⟨w.heap.size, 0, none⟩) n n) ∧ w'.ownsRow base 3 1 (.slice (some ⟨w.heap.size, 0, none⟩) n n) n (ints xs) ∧ w.grownBy w' none := by
  obtain ⟨i0, hi, hz0, hz1, hz2⟩ := info_parts info3
  have he := fun wx => Lib.run_eql_slice_nil (P := Try.prog) wx 22 3 (some ad) n c 0 0 Try.underlying22
  obtain ⟨b, off, hbo⟩ : ∃ b off, 0 < n → ad = ⟨b, off, none⟩ := by
    obtain ⟨b, off, spot⟩ := ad
    refine ⟨b, off, fun h => ?_⟩
    have hspot : spot = none := by simpa [Addr.add] using World.cell?_spot (hc 0 h)
    rw [hspot]
  have HB : Hid (0 < n → ad = ⟨b, off, none⟩) := hbo
  clear hbo
  have hcl : ∀ wr : World, w.grownBy wr none → ∀ k, k < n → wr.cell? ⟨b, off + k, none⟩ = some (.int .i64 (xs.getD k 0)) := by
    intro wr hg k hk
    have h1 := hc k hk
    rw [HB.out (by omega), Addr.add_lit] at h1
    exact hg.cell h1 (by simp)
  go_enter Try.func6, Try.ntmps6
  go_wp2_with (at_make; refine wpList_make_full _ rfl _ _ 22 rfl base 3 i0 (.int .i64 0) 1 Try.underlying22 hi hz0 hz1 _ _ _ _ n rfl rfl rfl rfl (by rw [hz2]; omega) (by unfold maxLen; omega) hb ?_)
  intro w1 hown hgrow
  rw [(toList_madeCells_one (.int .i64 0) n).trans (part_zero xs n).symm] at hown
  go_wp2
  go_loopw [4] (fun i wr => ∃ k : Nat, k ≤ n ∧ i = .int .i64 k ∧ wr.ownsRow base 3 1 (.slice (some ⟨w.heap.size, 0, none⟩) n n) n (part xs n k) ∧ w.grownBy wr none) (fun i _ => n - (intOf i).toNat)
  case atStart => exact ⟨0, Nat.zero_le _, rfl, hown, hgrow⟩
  case round =>
    clear hown hgrow
    obtain ⟨k, hk, rfl, hown, hgrow⟩ := hrel
    by_cases hlt : k < n
    · have hcx := hcl wr hgrow k hlt
      have hco : wr.cell? ⟨w.heap.size, k, none⟩ = some (.int .i64 0) := (hown.cellAt k (by omega)).trans (part_get xs n k hx hlt)
      have hfo := hown.frozenAt k
      have R := round_step hx hlt (Nat.le_refl _) hown hgrow
      obtain ⟨x, hxk⟩ : ∃ x, xs.getD k 0 = x := ⟨_, rfl⟩
      rw [hxk] at hcx R
      clear hxk
      have hadx : ad = ⟨b, off, none⟩ := HB.out (by omega)
      subst hadx
      have hlt' : (k : Int) < (n : Int) := by omega
      clear hown hgrow hcl hc
      go_wp2
      go_roundw
      case rel => exact ⟨k + 1, by omega, by go_num, R.1, R.2⟩
      case measure => simp [intOf]; omega
    · have hkn : k = n := by omega
      subst hkn
      rw [part_full xs k hx] at hown
      clear hcl hc
      go_wp2
      go_ret
      exact ⟨rfl, hown, hgrow⟩

/-! ### 'at' -/
theorem at_in (g n c k : Nat) (x : Int) (w : World) (h1 : k < n) (hc : w.cell? ⟨g, k, none⟩ = some (.int .i64 x)) :
    Calls Try.prog 10 #[.slice (some ⟨g, 0, none⟩) n c, .int .i64 k] w fun e w' => e = .returned (.int .i64 x) ∧ w' = w := by
  go_enter Try.func10, Try.ntmps10
  go_wp2
  go_ret
  exact ⟨rfl, rfl⟩

theorem at_out (a : Option Addr) (n c k : Nat) (w : World) (h1 : n ≤ k) :
    Calls Try.prog 10 #[.slice a n c, .int .i64 k] w fun e w' => e = .returned (.int .i64 0) ∧ w' = w := by
  go_enter Try.func10, Try.ntmps10
  go_wp2
  go_ret
  exact ⟨rfl, rfl⟩

/-! ### ZZStats: two new blocks, written out -/
theorem stats_any (ao : Option Addr) (n c : Nat) (f0 f1 f2 f3 f4 : Int) (w : World) :
    Calls Try.prog 7 #[.slice ao n c, .agg #[.int .i64 f0, .int .i64 f1, .int .i64 f2, .int .i64 f3, .int .i64 f4]] w fun e w' => e = .returned (.pointer (some ⟨w.heap.size + 1, 0, none⟩)) ∧
      w' = (w.alloc (.cells #[.int .i64 f0, .int .i64 f1, .int .i64 f2, .int .i64 f3, .int .i64 f4] 23)).alloc (.cells #[.slice ao n c, .int .i64 f0, .int .i64 f1, .int .i64 f2, .int .i64 f3, .int .i64 f4] 35) := by
  go_enter Try.func7, Try.ntmps7
  go_wp2
  go_ret
  exact ⟨rfl, rfl⟩

/-! ### sameInts, at two rows of the same numbers -/
theorem same_yes (a a' : Option Addr) (n c c' : Nat) (xs : List Int) (w : World) (hn : n ≤ 1048576) (hx : xs.length = n)
    (h1 : 0 < n → ∃ g, a = some ⟨g, 0, none⟩ ∧ ∀ k, k < n → w.cell? ⟨g, k, none⟩ = some (.int .i64 (xs.getD k 0)))
    (h2 : 0 < n → ∃ g, a' = some ⟨g, 0, none⟩ ∧ ∀ k, k < n → w.cell? ⟨g, k, none⟩ = some (.int .i64 (xs.getD k 0))) :
    Calls Try.prog 11 #[.slice a n c, .slice a' n c'] w fun e w' => e = .returned (.bool true) ∧ ∃ m, w' = w.drewN m := by
  by_cases hn0 : n = 0
  · subst hn0
    go_enter Try.func11, Try.ntmps11
    go_wp2
    refine wp_loop_rounds 1 ?_
    rw [rounds_succ]
    go_wp2
    go_ret
    exact ⟨rfl, 0, rfl⟩
  · obtain ⟨g, rfl, hc1⟩ := h1 (by omega)
    obtain ⟨g', rfl, hc2⟩ := h2 (by omega)
    go_enter Try.func11, Try.ntmps11
    go_wp2
    go_loopw [5] (fun i wr => ∃ k : Nat, k ≤ n ∧ i = .int .i64 k ∧ ∃ m, wr = w.drewN m) (fun i _ => n - (intOf i).toNat)
    case atStart => exact ⟨0, Nat.zero_le _, rfl, 0, rfl⟩
    case round =>
      obtain ⟨k, hk, rfl, m, rfl⟩ := hrel
      by_cases hlt : k < n
      · have g1 := hc1 k hlt
        have g2 := hc2 k hlt
        have hlt' : (k : Int) < (n : Int) := by omega
        clear hc1 hc2 h1 h2
        go_wp2
        go_quiet (fail)
        go_wp2
        go_roundw
        case rel => exact ⟨k + 1, by omega, by go_num, _, rfl⟩
        case measure => simp [intOf]; omega
      · clear hc1 hc2 h1 h2
        go_wp2
        go_ret
        exact ⟨rfl, m, rfl⟩

/-! ### the two bounds on lengths -/
theorem bytes2_yes (a0 a2 : Option Addr) (n0 c0 n2 c2 : Nat) (x0 x1 x2 x3 x4 y0 y1 y2 y3 y4 : Int) (w : World) (h0 : n0 ≤ 1048576) (h2 : n2 ≤ 1048576) (hs : n0 + n2 ≤ 1048576) :
    Calls Try.prog 5 #[.slice a0 n0 c0, .agg #[.int .i64 x0, .int .i64 x1, .int .i64 x2, .int .i64 x3, .int .i64 x4], .slice a2 n2 c2, .agg #[.int .i64 y0, .int .i64 y1, .int .i64 y2, .int .i64 y3, .int .i64 y4]] w
      fun e w' => e = .returned (.bool true) ∧ w' = (w.alloc (.cells #[.int .i64 x0, .int .i64 x1, .int .i64 x2, .int .i64 x3, .int .i64 x4] 23)).alloc (.cells #[.int .i64 y0, .int .i64 y1, .int .i64 y2, .int .i64 y3, .int .i64 y4] 23) := by
  go_enter Try.func5, Try.ntmps5
  go_wp2
  go_ret
  exact ⟨rfl, rfl⟩

theorem bytes2_no (a0 a2 : Option Addr) (n0 c0 n2 c2 : Nat) (x0 x1 x2 x3 x4 y0 y1 y2 y3 y4 : Int) (w : World) (hs : ¬ n0 + n2 ≤ 1048576) :
    Calls Try.prog 5 #[.slice a0 n0 c0, .agg #[.int .i64 x0, .int .i64 x1, .int .i64 x2, .int .i64 x3, .int .i64 x4], .slice a2 n2 c2, .agg #[.int .i64 y0, .int .i64 y1, .int .i64 y2, .int .i64 y3, .int .i64 y4]] w
      fun e w' => e = .returned (.bool false) ∧ w' = (w.alloc (.cells #[.int .i64 x0, .int .i64 x1, .int .i64 x2, .int .i64 x3, .int .i64 x4] 23)).alloc (.cells #[.int .i64 y0, .int .i64 y1, .int .i64 y2, .int .i64 y3, .int .i64 y4] 23) := by
  by_cases h0 : 1048576 < n0
  · go_enter Try.func5, Try.ntmps5
    go_wp2
    go_ret
    exact ⟨rfl, rfl⟩
  · by_cases h2 : 1048576 < n2
    · go_enter Try.func5, Try.ntmps5
      go_wp2
      go_ret
      exact ⟨rfl, rfl⟩
    · go_enter Try.func5, Try.ntmps5
      go_wp2
      go_ret
      exact ⟨rfl, rfl⟩
end Go.Proofs.Qxb6618405a
