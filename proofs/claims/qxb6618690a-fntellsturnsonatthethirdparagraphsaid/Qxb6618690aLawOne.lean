/-
  THE WALKS OF THE TWO LAWS.
-/
import Derived.Test.Qxb6618690aWalks
namespace Go.Proofs.Qxb6618690a
open Go.RowKit
set_option linter.unusedVariables false

theorem third_zero_low (p : Int) (w : World) (h0 : -9223372036854775807 ≤ p) (h1 : p < 3) :
    Calls Try.prog 4 #[.int .i64 0, .int .i64 p] w fun e w' => e = .returned (.bool true) ∧ Grown w w' := by
  go_enter Try.func4, Try.ntmps4
  go_wp2_with fail
  refine (of_val 0 p false w (tl_zero _)).mono ?_
  rintro e w1 ⟨rfl, hg1⟩
  go_wp2_with fail
  refine (of_val 0 (p - 1) false w1 (tl_zero _)).mono ?_
  rintro e w2 ⟨rfl, hg2⟩
  go_wp2_with fail
  refine (of_val 0 3 false w2 (tl_zero _)).mono ?_
  rintro e w3 ⟨rfl, hg3⟩
  go_wp2
  go_ret
  exact ⟨rfl, Grown_trans (Grown_trans hg1 hg2) hg3⟩

theorem third_zero_high (p : Int) (w : World) (h0 : 3 ≤ p) (h1 : p ≤ 9223372036854775807) :
    Calls Try.prog 4 #[.int .i64 0, .int .i64 p] w fun e w' => e = .returned (.bool true) ∧ Grown w w' := by
  go_enter Try.func4, Try.ntmps4
  go_wp2_with fail
  refine (of_val 0 p false w (tl_zero _)).mono ?_
  rintro e w1 ⟨rfl, hg1⟩
  go_wp2_with fail
  refine (of_val 0 (p - 1) false w1 (tl_zero _)).mono ?_
  rintro e w2 ⟨rfl, hg2⟩
  go_wp2_with fail
  refine (of_val 0 p false w2 (tl_zero _)).mono ?_
  rintro e w3 ⟨rfl, hg3⟩
  go_wp2
  go_ret
  exact ⟨rfl, Grown_trans (Grown_trans hg1 hg2) hg3⟩

theorem third_at (h : Int) (w : World) (hh : h ≠ 0) :
    Calls Try.prog 4 #[.int .i64 h, .int .i64 3] w fun e w' => e = .returned (.bool true) ∧ Grown w w' := by
  have f1 : (h != 0) = true := by simp [hh]
  have f2 : (h == 0) = false := by simp [hh]
  have HH : Hid (h ≠ 0) := hh
  clear hh
  go_enter Try.func4, Try.ntmps4
  go_wp2_with fail
  refine (of_val h 3 true w (tl_yes _ _ HH.out (by omega))).mono ?_
  rintro e w1 ⟨rfl, hg1⟩
  go_wp2_with fail
  refine (of_val h 2 false w1 (tl_no _ _ (by omega))).mono ?_
  rintro e w2 ⟨rfl, hg2⟩
  go_wp2_with fail
  refine (of_val h 3 true w2 (tl_yes _ _ HH.out (by omega))).mono ?_
  rintro e w3 ⟨rfl, hg3⟩
  go_wp2
  go_ret
  exact ⟨rfl, Grown_trans (Grown_trans hg1 hg2) hg3⟩

theorem third_low (h p : Int) (w : World) (hh : h ≠ 0) (h0 : -9223372036854775807 ≤ p) (h1 : p < 3) :
    Calls Try.prog 4 #[.int .i64 h, .int .i64 p] w fun e w' => e = .returned (.bool true) ∧ Grown w w' := by
  have f1 : (h != 0) = true := by simp [hh]
  have f2 : (h == 0) = false := by simp [hh]
  have HH : Hid (h ≠ 0) := hh
  clear hh
  have f3 : (p == 3) = false := beq_eq_false_iff_ne.2 (by omega)
  go_enter Try.func4, Try.ntmps4
  go_wp2_with fail
  refine (of_val h p false w (tl_no _ _ (by omega))).mono ?_
  rintro e w1 ⟨rfl, hg1⟩
  go_wp2_with fail
  refine (of_val h (p - 1) false w1 (tl_no _ _ (by omega))).mono ?_
  rintro e w2 ⟨rfl, hg2⟩
  go_wp2_with fail
  refine (of_val h 3 true w2 (tl_yes _ _ HH.out (by omega))).mono ?_
  rintro e w3 ⟨rfl, hg3⟩
  go_wp2
  go_ret
  exact ⟨rfl, Grown_trans (Grown_trans hg1 hg2) hg3⟩

theorem third_high (h p : Int) (w : World) (hh : h ≠ 0) (h0 : 3 < p) (h1 : p ≤ 9223372036854775807) :
    Calls Try.prog 4 #[.int .i64 h, .int .i64 p] w fun e w' => e = .returned (.bool true) ∧ Grown w w' := by
  have f1 : (h != 0) = true := by simp [hh]
  have f2 : (h == 0) = false := by simp [hh]
  have HH : Hid (h ≠ 0) := hh
  clear hh
  have f3 : (p == 3) = false := beq_eq_false_iff_ne.2 (by omega)
  go_enter Try.func4, Try.ntmps4
  go_wp2_with fail
  refine (of_val h p true w (tl_yes _ _ HH.out (by omega))).mono ?_
  rintro e w1 ⟨rfl, hg1⟩
  go_wp2_with fail
  refine (of_val h (p - 1) true w1 (tl_yes _ _ HH.out (by omega))).mono ?_
  rintro e w2 ⟨rfl, hg2⟩
  go_wp2_with fail
  refine (of_val h p true w2 (tl_yes _ _ HH.out (by omega))).mono ?_
  rintro e w3 ⟨rfl, hg3⟩
  go_wp2
  go_ret
  exact ⟨rfl, Grown_trans (Grown_trans hg1 hg2) hg3⟩

theorem third_least (h p : Int) (w : World) (hd : p < wrap64 (p - 1)) :
    Calls Try.prog 4 #[.int .i64 h, .int .i64 p] w fun e w' => e = .returned (.bool true) ∧ Grown w w' := by
  go_enter Try.func4, Try.ntmps4
  go_wp2
  go_ret
  exact ⟨rfl, Grown.refl _⟩

/-- The first law, at every input. -/
theorem third (h p : Int) (w : World) (b : -9223372036854775808 ≤ p ∧ p ≤ 9223372036854775807) :
    Calls Try.prog 4 #[.int .i64 h, .int .i64 p] w fun e w' => e = .returned (.bool true) ∧ Grown w w' := by
  by_cases hl : -9223372036854775807 ≤ p
  case neg => exact third_least h p w (by unfold wrap64; omega)
  by_cases hh : h = 0
  · subst hh
    by_cases h3 : p < 3
    · exact third_zero_low p w hl h3
    · exact third_zero_high p w (by omega) b.2
  · by_cases h3 : p < 3
    · exact third_low h p w hh hl h3
    · by_cases h4 : p = 3
      · subst h4; exact third_at h w hh
      · exact third_high h p w hh (by omega) b.2
end Go.Proofs.Qxb6618690a
