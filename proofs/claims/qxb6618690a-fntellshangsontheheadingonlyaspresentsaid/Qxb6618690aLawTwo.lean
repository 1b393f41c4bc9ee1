/-
  THE WALK OF THE SECOND LAW.
-/
import Derived.Test.Qxb6618690aWalks
namespace Go.Proofs.Qxb6618690a
open Go.RowKit
set_option linter.unusedVariables false

theorem tl_h0 (h p : Int) (hh : h = 0) : tl h p = false := by simp [tl, hh]

theorem hang_zzl (h1 h2 p k : Int) (w : World) (q1 : h1 = 0) (q2 : h2 = 0) (hk0 : 0 ≤ k) (hs : p + k ≤ 9223372036854775807) (h0 : -9223372036854775808 ≤ p) (h3 : p ≤ 2) :
    Calls Try.prog 5 #[.int .i64 h1, .int .i64 h2, .int .i64 p, .int .i64 k] w fun e w' => e = .returned (.bool true) ∧ Grown w w' := by
  have f1 : (h1 != 0) = false := by simp [q1]
  have f2 : (h2 != 0) = false := by simp [q2]
  have H1 : Hid (h1 = 0) := q1
  have H2 : Hid (h2 = 0) := q2
  have hd1 : decide (k < 0) = false := by simp; omega
  have hd2 : decide (p + k < p) = false := by simp; omega
  clear q1 q2
  go_enter Try.func5, Try.ntmps5
  go_wp2_with fail
  refine (of_val h1 p false w (tl_h0 _ _ H1.out)).mono ?_
  rintro e w1 ⟨rfl, hg1⟩
  go_wp2_with fail
  refine (of_val h2 p false w1 (tl_h0 _ _ H2.out)).mono ?_
  rintro e w2 ⟨rfl, hg2⟩
  go_wp2_with fail
  refine (of_val h1 (p + k) false w2 (tl_h0 _ _ H1.out)).mono ?_
  rintro e w3 ⟨rfl, hg3⟩
  go_wp2_with fail
  refine (of_val h1 p false w3 (tl_h0 _ _ H1.out)).mono ?_
  rintro e w4 ⟨rfl, hg4⟩
  go_wp2_with fail
  refine (of_val h1 3 false w4 (tl_h0 _ _ H1.out)).mono ?_
  rintro e w5 ⟨rfl, hg5⟩
  go_wp2
  go_ret
  exact ⟨rfl, Grown_trans (Grown_trans (Grown_trans (Grown_trans hg1 hg2) hg3) hg4) hg5⟩

theorem hang_zzh (h1 h2 p k : Int) (w : World) (q1 : h1 = 0) (q2 : h2 = 0) (hk0 : 0 ≤ k) (hs : p + k ≤ 9223372036854775807) (h3 : 3 ≤ p) :
    Calls Try.prog 5 #[.int .i64 h1, .int .i64 h2, .int .i64 p, .int .i64 k] w fun e w' => e = .returned (.bool true) ∧ Grown w w' := by
  have f1 : (h1 != 0) = false := by simp [q1]
  have f2 : (h2 != 0) = false := by simp [q2]
  have H1 : Hid (h1 = 0) := q1
  have H2 : Hid (h2 = 0) := q2
  have hd1 : decide (k < 0) = false := by simp; omega
  have hd2 : decide (p + k < p) = false := by simp; omega
  clear q1 q2
  go_enter Try.func5, Try.ntmps5
  go_wp2_with fail
  refine (of_val h1 p false w (tl_h0 _ _ H1.out)).mono ?_
  rintro e w1 ⟨rfl, hg1⟩
  go_wp2_with fail
  refine (of_val h2 p false w1 (tl_h0 _ _ H2.out)).mono ?_
  rintro e w2 ⟨rfl, hg2⟩
  go_wp2_with fail
  refine (of_val h1 (p + k) false w2 (tl_h0 _ _ H1.out)).mono ?_
  rintro e w3 ⟨rfl, hg3⟩
  go_wp2_with fail
  refine (of_val h1 2 false w3 (tl_h0 _ _ H1.out)).mono ?_
  rintro e w4 ⟨rfl, hg4⟩
  go_wp2_with fail
  refine (of_val h1 p false w4 (tl_h0 _ _ H1.out)).mono ?_
  rintro e w5 ⟨rfl, hg5⟩
  go_wp2
  go_ret
  exact ⟨rfl, Grown_trans (Grown_trans (Grown_trans (Grown_trans hg1 hg2) hg3) hg4) hg5⟩

theorem hang_znl (h1 h2 p k : Int) (w : World) (q1 : h1 = 0) (q2 : h2 ≠ 0) (hk0 : 0 ≤ k) (hs : p + k ≤ 9223372036854775807) (h0 : -9223372036854775808 ≤ p) (h3 : p ≤ 2) :
    Calls Try.prog 5 #[.int .i64 h1, .int .i64 h2, .int .i64 p, .int .i64 k] w fun e w' => e = .returned (.bool true) ∧ Grown w w' := by
  have f1 : (h1 != 0) = false := by simp [q1]
  have f2 : (h2 != 0) = true := by simp [q2]
  have H1 : Hid (h1 = 0) := q1
  have H2 : Hid (h2 ≠ 0) := q2
  have hd1 : decide (k < 0) = false := by simp; omega
  have hd2 : decide (p + k < p) = false := by simp; omega
  clear q1 q2
  go_enter Try.func5, Try.ntmps5
  go_wp2_with fail
  refine (of_val h1 p false w (tl_h0 _ _ H1.out)).mono ?_
  rintro e w1 ⟨rfl, hg1⟩
  go_wp2_with fail
  refine (of_val h2 p false w1 (tl_no _ _ (by omega))).mono ?_
  rintro e w2 ⟨rfl, hg2⟩
  go_wp2_with fail
  refine (of_val h1 (p + k) false w2 (tl_h0 _ _ H1.out)).mono ?_
  rintro e w3 ⟨rfl, hg3⟩
  go_wp2_with fail
  refine (of_val h1 p false w3 (tl_h0 _ _ H1.out)).mono ?_
  rintro e w4 ⟨rfl, hg4⟩
  go_wp2_with fail
  refine (of_val h1 3 false w4 (tl_h0 _ _ H1.out)).mono ?_
  rintro e w5 ⟨rfl, hg5⟩
  go_wp2
  go_ret
  exact ⟨rfl, Grown_trans (Grown_trans (Grown_trans (Grown_trans hg1 hg2) hg3) hg4) hg5⟩

theorem hang_znh (h1 h2 p k : Int) (w : World) (q1 : h1 = 0) (q2 : h2 ≠ 0) (hk0 : 0 ≤ k) (hs : p + k ≤ 9223372036854775807) (h3 : 3 ≤ p) :
    Calls Try.prog 5 #[.int .i64 h1, .int .i64 h2, .int .i64 p, .int .i64 k] w fun e w' => e = .returned (.bool true) ∧ Grown w w' := by
  have f1 : (h1 != 0) = false := by simp [q1]
  have f2 : (h2 != 0) = true := by simp [q2]
  have H1 : Hid (h1 = 0) := q1
  have H2 : Hid (h2 ≠ 0) := q2
  have hd1 : decide (k < 0) = false := by simp; omega
  have hd2 : decide (p + k < p) = false := by simp; omega
  clear q1 q2
  go_enter Try.func5, Try.ntmps5
  go_wp2_with fail
  refine (of_val h1 p false w (tl_h0 _ _ H1.out)).mono ?_
  rintro e w1 ⟨rfl, hg1⟩
  go_wp2_with fail
  refine (of_val h2 p true w1 (tl_yes _ _ H2.out (by omega))).mono ?_
  rintro e w2 ⟨rfl, hg2⟩
  go_wp2_with fail
  refine (of_val h1 (p + k) false w2 (tl_h0 _ _ H1.out)).mono ?_
  rintro e w3 ⟨rfl, hg3⟩
  go_wp2_with fail
  refine (of_val h1 2 false w3 (tl_h0 _ _ H1.out)).mono ?_
  rintro e w4 ⟨rfl, hg4⟩
  go_wp2_with fail
  refine (of_val h1 p false w4 (tl_h0 _ _ H1.out)).mono ?_
  rintro e w5 ⟨rfl, hg5⟩
  go_wp2
  go_ret
  exact ⟨rfl, Grown_trans (Grown_trans (Grown_trans (Grown_trans hg1 hg2) hg3) hg4) hg5⟩

theorem hang_nzl (h1 h2 p k : Int) (w : World) (q1 : h1 ≠ 0) (q2 : h2 = 0) (hk0 : 0 ≤ k) (hs : p + k ≤ 9223372036854775807) (h0 : -9223372036854775808 ≤ p) (h3 : p ≤ 2) :
    Calls Try.prog 5 #[.int .i64 h1, .int .i64 h2, .int .i64 p, .int .i64 k] w fun e w' => e = .returned (.bool true) ∧ Grown w w' := by
  have f1 : (h1 != 0) = true := by simp [q1]
  have f2 : (h2 != 0) = false := by simp [q2]
  have H1 : Hid (h1 ≠ 0) := q1
  have H2 : Hid (h2 = 0) := q2
  have hd1 : decide (k < 0) = false := by simp; omega
  have hd2 : decide (p + k < p) = false := by simp; omega
  clear q1 q2
  go_enter Try.func5, Try.ntmps5
  go_wp2_with fail
  refine (of_val h1 p false w (tl_no _ _ (by omega))).mono ?_
  rintro e w1 ⟨rfl, hg1⟩
  go_wp2_with fail
  refine (of_val h2 p false w1 (tl_h0 _ _ H2.out)).mono ?_
  rintro e w2 ⟨rfl, hg2⟩
  go_wp2_with fail
  refine (of_val h1 (p + k) (tl h1 (p + k)) w2 rfl).mono ?_
  rintro e w3 ⟨rfl, hg3⟩
  go_wp2_with fail
  refine (of_val h1 p false w3 (tl_no _ _ (by omega))).mono ?_
  rintro e w4 ⟨rfl, hg4⟩
  go_wp2_with fail
  refine (of_val h1 3 true w4 (tl_yes _ _ H1.out (by omega))).mono ?_
  rintro e w5 ⟨rfl, hg5⟩
  go_wp2
  go_ret
  exact ⟨rfl, Grown_trans (Grown_trans (Grown_trans (Grown_trans hg1 hg2) hg3) hg4) hg5⟩

theorem hang_nzh (h1 h2 p k : Int) (w : World) (q1 : h1 ≠ 0) (q2 : h2 = 0) (hk0 : 0 ≤ k) (hs : p + k ≤ 9223372036854775807) (h3 : 3 ≤ p) :
    Calls Try.prog 5 #[.int .i64 h1, .int .i64 h2, .int .i64 p, .int .i64 k] w fun e w' => e = .returned (.bool true) ∧ Grown w w' := by
  have f1 : (h1 != 0) = true := by simp [q1]
  have f2 : (h2 != 0) = false := by simp [q2]
  have H1 : Hid (h1 ≠ 0) := q1
  have H2 : Hid (h2 = 0) := q2
  have hd1 : decide (k < 0) = false := by simp; omega
  have hd2 : decide (p + k < p) = false := by simp; omega
  clear q1 q2
  go_enter Try.func5, Try.ntmps5
  go_wp2_with fail
  refine (of_val h1 p true w (tl_yes _ _ H1.out (by omega))).mono ?_
  rintro e w1 ⟨rfl, hg1⟩
  go_wp2_with fail
  refine (of_val h2 p false w1 (tl_h0 _ _ H2.out)).mono ?_
  rintro e w2 ⟨rfl, hg2⟩
  go_wp2_with fail
  refine (of_val h1 (p + k) true w2 (tl_yes _ _ H1.out (by omega))).mono ?_
  rintro e w3 ⟨rfl, hg3⟩
  go_wp2_with fail
  refine (of_val h1 2 false w3 (tl_no _ _ (by omega))).mono ?_
  rintro e w4 ⟨rfl, hg4⟩
  go_wp2_with fail
  refine (of_val h1 p true w4 (tl_yes _ _ H1.out (by omega))).mono ?_
  rintro e w5 ⟨rfl, hg5⟩
  go_wp2
  go_ret
  exact ⟨rfl, Grown_trans (Grown_trans (Grown_trans (Grown_trans hg1 hg2) hg3) hg4) hg5⟩

theorem hang_nnl (h1 h2 p k : Int) (w : World) (q1 : h1 ≠ 0) (q2 : h2 ≠ 0) (hk0 : 0 ≤ k) (hs : p + k ≤ 9223372036854775807) (h0 : -9223372036854775808 ≤ p) (h3 : p ≤ 2) :
    Calls Try.prog 5 #[.int .i64 h1, .int .i64 h2, .int .i64 p, .int .i64 k] w fun e w' => e = .returned (.bool true) ∧ Grown w w' := by
  have f1 : (h1 != 0) = true := by simp [q1]
  have f2 : (h2 != 0) = true := by simp [q2]
  have H1 : Hid (h1 ≠ 0) := q1
  have H2 : Hid (h2 ≠ 0) := q2
  have hd1 : decide (k < 0) = false := by simp; omega
  have hd2 : decide (p + k < p) = false := by simp; omega
  clear q1 q2
  go_enter Try.func5, Try.ntmps5
  go_wp2_with fail
  refine (of_val h1 p false w (tl_no _ _ (by omega))).mono ?_
  rintro e w1 ⟨rfl, hg1⟩
  go_wp2_with fail
  refine (of_val h2 p false w1 (tl_no _ _ (by omega))).mono ?_
  rintro e w2 ⟨rfl, hg2⟩
  go_wp2_with fail
  refine (of_val h1 (p + k) (tl h1 (p + k)) w2 rfl).mono ?_
  rintro e w3 ⟨rfl, hg3⟩
  go_wp2_with fail
  refine (of_val h1 p false w3 (tl_no _ _ (by omega))).mono ?_
  rintro e w4 ⟨rfl, hg4⟩
  go_wp2_with fail
  refine (of_val h1 3 true w4 (tl_yes _ _ H1.out (by omega))).mono ?_
  rintro e w5 ⟨rfl, hg5⟩
  go_wp2
  go_ret
  exact ⟨rfl, Grown_trans (Grown_trans (Grown_trans (Grown_trans hg1 hg2) hg3) hg4) hg5⟩

theorem hang_nnh (h1 h2 p k : Int) (w : World) (q1 : h1 ≠ 0) (q2 : h2 ≠ 0) (hk0 : 0 ≤ k) (hs : p + k ≤ 9223372036854775807) (h3 : 3 ≤ p) :
    Calls Try.prog 5 #[.int .i64 h1, .int .i64 h2, .int .i64 p, .int .i64 k] w fun e w' => e = .returned (.bool true) ∧ Grown w w' := by
  have f1 : (h1 != 0) = true := by simp [q1]
  have f2 : (h2 != 0) = true := by simp [q2]
  have H1 : Hid (h1 ≠ 0) := q1
  have H2 : Hid (h2 ≠ 0) := q2
  have hd1 : decide (k < 0) = false := by simp; omega
  have hd2 : decide (p + k < p) = false := by simp; omega
  clear q1 q2
  go_enter Try.func5, Try.ntmps5
  go_wp2_with fail
  refine (of_val h1 p true w (tl_yes _ _ H1.out (by omega))).mono ?_
  rintro e w1 ⟨rfl, hg1⟩
  go_wp2_with fail
  refine (of_val h2 p true w1 (tl_yes _ _ H2.out (by omega))).mono ?_
  rintro e w2 ⟨rfl, hg2⟩
  go_wp2_with fail
  refine (of_val h1 (p + k) true w2 (tl_yes _ _ H1.out (by omega))).mono ?_
  rintro e w3 ⟨rfl, hg3⟩
  go_wp2_with fail
  refine (of_val h1 2 false w3 (tl_no _ _ (by omega))).mono ?_
  rintro e w4 ⟨rfl, hg4⟩
  go_wp2_with fail
  refine (of_val h1 p true w4 (tl_yes _ _ H1.out (by omega))).mono ?_
  rintro e w5 ⟨rfl, hg5⟩
  go_wp2
  go_ret
  exact ⟨rfl, Grown_trans (Grown_trans (Grown_trans (Grown_trans hg1 hg2) hg3) hg4) hg5⟩

theorem hang_neg (h1 h2 p k : Int) (w : World) (hk : k < 0) :
    Calls Try.prog 5 #[.int .i64 h1, .int .i64 h2, .int .i64 p, .int .i64 k] w fun e w' => e = .returned (.bool true) ∧ Grown w w' := by
  go_enter Try.func5, Try.ntmps5
  go_wp2
  go_ret
  exact ⟨rfl, Grown.refl _⟩

theorem hang_over (h1 h2 p k : Int) (w : World) (hk : 0 ≤ k) (ho : wrap64 (p + k) < p) :
    Calls Try.prog 5 #[.int .i64 h1, .int .i64 h2, .int .i64 p, .int .i64 k] w fun e w' => e = .returned (.bool true) ∧ Grown w w' := by
  have hd1 : decide (k < 0) = false := by simp; omega
  go_enter Try.func5, Try.ntmps5
  go_wp2
  go_ret
  exact ⟨rfl, Grown.refl _⟩

/-- The second law, at every input. -/
theorem hang (h1 h2 p k : Int) (w : World) (b : -9223372036854775808 ≤ p ∧ p ≤ 9223372036854775807) (c : k ≤ 9223372036854775807) :
    Calls Try.prog 5 #[.int .i64 h1, .int .i64 h2, .int .i64 p, .int .i64 k] w fun e w' => e = .returned (.bool true) ∧ Grown w w' := by
  by_cases hk : k < 0
  · exact hang_neg h1 h2 p k w hk
  by_cases hs : p + k ≤ 9223372036854775807
  case neg => exact hang_over h1 h2 p k w (by omega) (by unfold wrap64; omega)
  by_cases q1 : h1 = 0 <;> by_cases q2 : h2 = 0 <;> by_cases h3 : p ≤ 2
  · exact hang_zzl h1 h2 p k w q1 q2 (by omega) hs b.1 h3
  · exact hang_zzh h1 h2 p k w q1 q2 (by omega) hs (by omega)
  · exact hang_znl h1 h2 p k w q1 q2 (by omega) hs b.1 h3
  · exact hang_znh h1 h2 p k w q1 q2 (by omega) hs (by omega)
  · exact hang_nzl h1 h2 p k w q1 q2 (by omega) hs b.1 h3
  · exact hang_nzh h1 h2 p k w q1 q2 (by omega) hs (by omega)
  · exact hang_nnl h1 h2 p k w q1 q2 (by omega) hs b.1 h3
  · exact hang_nnh h1 h2 p k w q1 q2 (by omega) hs (by omega)
end Go.Proofs.Qxb6618690a
