/-
  THE CALLEES: ZZPlaceOf, ZZPlaceHash, ZZPlaceSlot.
-/
import Derived.Test.Qxb6618676aChecked
import Derived.WalkKit
import Derived.WalkSpells
import Derived.WalkLawsBesides
namespace Go.Proofs.Qxb6618676a
open Go.RowKit
set_option linter.unusedVariables false

theorem or_join (x y : Int) (hx0 : 0 ≤ x) (hx1 : x < 18446744073709551616) (hm : x % 4294967296 = 0) (hy0 : 0 ≤ y) (hy1 : y < 4294967296) : bits .or .u64 x y = x + y := by
  rw [u64_or x y hx0 hx1 hy0 (by omega), nat_join 32 x.toNat y.toNat (by omega) (by omega)]
  omega

theorem ret_int {k : IntKind} {a b : Int} (h : a = b) : Ending.returned (.int k a) = .returned (.int k b) := by rw [h]

theorem place_any (s h : Int) (w : World) (hs0 : -2147483648 ≤ s) (hs1 : s ≤ 2147483647) (hh0 : 0 ≤ h) (hh1 : h ≤ 4294967295) :
    Calls Try.prog 5 #[.int .i32 s, .int .u32 h] w fun e w' => e = .returned (.int .u64 (h * 4294967296 + (s + 1) % 4294967296)) ∧ w' = w := by
  go_enter Try.func5, Try.ntmps5
  go_wp2
  go_ret
  exact ⟨ret_int (or_join _ _ (by omega) (by omega) (by omega) (by omega) (by omega)), rfl⟩

theorem hash_any (p : Int) (w : World) (h0 : 0 ≤ p) (h1 : p ≤ 18446744073709551615) :
    Calls Try.prog 6 #[.int .u64 p] w fun e w' => e = .returned (.int .u32 (p / 4294967296)) ∧ w' = w := by
  go_enter Try.func6, Try.ntmps6
  go_wp2
  go_ret
  exact ⟨rfl, rfl⟩

theorem slot_any (p : Int) (w : World) (h0 : 0 ≤ p) (h1 : p ≤ 18446744073709551615) :
    Calls Try.prog 7 #[.int .u64 p] w fun e w' => e = .returned (.int .i32 (wrap32 (p - 1))) ∧ w' = w := by
  go_enter Try.func7, Try.ntmps7
  go_wp2
  go_ret
  exact ⟨ret_int (by unfold wrap32; omega), rfl⟩

/-- The place of slot s with hash h, as a number. -/
def pl (s h : Int) : Int := h * 4294967296 + (s + 1) % 4294967296

theorem pl_bd (s h : Int) (hh0 : 0 ≤ h) (hh1 : h ≤ 4294967295) : 0 ≤ pl s h ∧ pl s h ≤ 18446744073709551615 := by unfold pl; omega
theorem pl_hash (s h : Int) : pl s h / 4294967296 = h := by unfold pl; omega
theorem pl_slot (s h : Int) (hs0 : -2147483648 ≤ s) (hs1 : s ≤ 2147483647) : wrap32 (pl s h - 1) = s := by unfold pl wrap32; omega
theorem pl_taken (s h : Int) (hs1 : s ≤ 2147483647) (hh0 : 0 ≤ h) (h0 : 0 ≤ s) : pl s h ≠ 0 := by unfold pl; omega

theorem pl_inj (s1 h1 s2 h2 : Int) (a1 : -2147483648 ≤ s1) (a2 : s1 ≤ 2147483647) (a3 : 0 ≤ h1) (a4 : h1 ≤ 4294967295) (b1 : -2147483648 ≤ s2) (b2 : s2 ≤ 2147483647) (b3 : 0 ≤ h2) (b4 : h2 ≤ 4294967295) (e : pl s1 h1 = pl s2 h2) : s1 = s2 ∧ h1 = h2 := by
  unfold pl at e
  omega

theorem pl_lt (s1 s2 h : Int) (a0 : 0 ≤ s1) (a2 : s1 ≤ 2147483647) (b0 : 0 ≤ s2) (b2 : s2 ≤ 2147483647) : pl s1 h < pl s2 h ↔ s1 < s2 := by
  unfold pl
  omega

theorem trip (s h : Int) (w : World) (hs0 : -2147483648 ≤ s) (hs1 : s ≤ 2147483647) (hh0 : 0 ≤ h) (hh1 : h ≤ 4294967295) :
    Calls Try.prog 3 #[.int .i32 s, .int .u32 h] w fun e w' => e = .returned (.bool true) ∧ w' = w := by
  have c1 := place_any s h w hs0 hs1 hh0 hh1
  have hb := pl_bd s h hh0 hh1
  have e1 := pl_hash s h
  have e2 := pl_slot s h hs0 hs1
  change Calls Try.prog 5 #[.int .i32 s, .int .u32 h] w fun e w' => e = .returned (.int .u64 (pl s h)) ∧ w' = w at c1
  obtain ⟨P, hP⟩ : ∃ P, pl s h = P := ⟨_, rfl⟩
  rw [hP] at c1 hb e1 e2
  have c2 := hash_any P w hb.1 hb.2
  have c3 := slot_any P w hb.1 hb.2
  rw [e1] at c2
  rw [e2] at c3
  have H1 : Hid (Calls Try.prog 5 #[.int .i32 s, .int .u32 h] w fun e w' => e = .returned (.int .u64 P) ∧ w' = w) := c1
  have H2 : Hid (Calls Try.prog 6 #[.int .u64 P] w fun e w' => e = .returned (.int .u32 h) ∧ w' = w) := c2
  have H3 : Hid (Calls Try.prog 7 #[.int .u64 P] w fun e w' => e = .returned (.int .i32 s) ∧ w' = w) := c3
  clear c1 c2 c3 hP e1 e2 hb
  go_enter Try.func3, Try.ntmps3
  go_wp2_with fail
  refine H1.out.mono ?_
  rintro e w' ⟨rfl, hw'⟩
  obtain rfl : w = w' := hw'.symm
  go_wp2_with fail
  refine H2.out.mono ?_
  rintro e w' ⟨rfl, hw'⟩
  obtain rfl : w = w' := hw'.symm
  go_wp2_with fail
  refine H3.out.mono ?_
  rintro e w' ⟨rfl, hw'⟩
  obtain rfl : w = w' := hw'.symm
  go_wp2
  go_ret
  exact ⟨rfl, rfl⟩
/-- Two places: what the walk is told of them. -/
theorem two_at (s1 h1 s2 h2 P1 P2 : Int) (w : World)
    (H1 : Hid (Calls Try.prog 5 #[.int .i32 s1, .int .u32 h1] w fun e w' => e = .returned (.int .u64 P1) ∧ w' = w)) (H2 : Hid (Calls Try.prog 5 #[.int .i32 s2, .int .u32 h2] w fun e w' => e = .returned (.int .u64 P2) ∧ w' = w))
    (H3 : Hid (Calls Try.prog 7 #[.int .u64 P1] w fun e w' => e = .returned (.int .i32 s1) ∧ w' = w)) (H4 : Hid (Calls Try.prog 6 #[.int .u64 P1] w fun e w' => e = .returned (.int .u32 h1) ∧ w' = w))
    (H5 : Hid (Calls Try.prog 7 #[.int .u64 P2] w fun e w' => e = .returned (.int .i32 s2) ∧ w' = w)) (H6 : Hid (Calls Try.prog 6 #[.int .u64 P2] w fun e w' => e = .returned (.int .u32 h2) ∧ w' = w))
    (g1 : Hid (P1 = P2 ↔ s1 = s2 ∧ h1 = h2)) (g2 : Hid (0 ≤ s1 → P1 ≠ 0)) (g3 : Hid (0 ≤ s2 → P2 ≠ 0)) (g4 : Hid (h1 = h2 → 0 ≤ s1 → 0 ≤ s2 → (P1 < P2 ↔ s1 < s2))) :
    Calls Try.prog 4 #[.int .i32 s1, .int .u32 h1, .int .i32 s2, .int .u32 h2] w fun e w' => e = .returned (.bool true) ∧ w' = w := by
  by_cases cs : s1 = s2 <;> by_cases ch : h1 = h2 <;> by_cases c1 : 0 ≤ s1 <;> by_cases c2 : 0 ≤ s2
  · have f1 : (s1 == s2) = true := beq_iff_eq.2 cs
    have f2 : (h1 == h2) = true := beq_iff_eq.2 ch
    have f3 : (P1 == P2) = true := beq_iff_eq.2 (g1.out.2 ⟨cs, ch⟩)
    have f4 : decide (0 ≤ s1) = true := by simpa using c1
    have f5 : (P1 == 0) = false := beq_eq_false_iff_ne.2 (g2.out c1)
    have f6 : decide (0 ≤ s2) = true := by simpa using c2
    have f7 : (P2 == 0) = false := beq_eq_false_iff_ne.2 (g3.out c2)
    have f8 : decide (P1 < P2) = decide (s1 < s2) := decide_eq_decide.2 (g4.out ch c1 c2)
    clear cs ch c1 c2 g1 g2 g3 g4
    go_enter Try.func4, Try.ntmps4
    go_wp2_with fail
    refine H1.out.mono ?_
    rintro e w' ⟨rfl, hw'⟩
    obtain rfl : w = w' := hw'.symm
    go_wp2_with fail
    refine H2.out.mono ?_
    rintro e w' ⟨rfl, hw'⟩
    obtain rfl : w = w' := hw'.symm
    go_wp2_with fail
    refine H3.out.mono ?_
    rintro e w' ⟨rfl, hw'⟩
    obtain rfl : w = w' := hw'.symm
    go_wp2_with fail
    refine H4.out.mono ?_
    rintro e w' ⟨rfl, hw'⟩
    obtain rfl : w = w' := hw'.symm
    go_wp2_with fail
    refine H5.out.mono ?_
    rintro e w' ⟨rfl, hw'⟩
    obtain rfl : w = w' := hw'.symm
    go_wp2_with fail
    refine H6.out.mono ?_
    rintro e w' ⟨rfl, hw'⟩
    obtain rfl : w = w' := hw'.symm
    go_wp2
    go_ret
    exact ⟨rfl, rfl⟩
  · omega
  · omega
  · have f1 : (s1 == s2) = true := beq_iff_eq.2 cs
    have f2 : (h1 == h2) = true := beq_iff_eq.2 ch
    have f3 : (P1 == P2) = true := beq_iff_eq.2 (g1.out.2 ⟨cs, ch⟩)
    have f4 : decide (0 ≤ s1) = false := by simpa using c1
    have f6 : decide (0 ≤ s2) = false := by simpa using c2
    clear cs ch c1 c2 g1 g2 g3 g4
    go_enter Try.func4, Try.ntmps4
    go_wp2_with fail
    refine H1.out.mono ?_
    rintro e w' ⟨rfl, hw'⟩
    obtain rfl : w = w' := hw'.symm
    go_wp2_with fail
    refine H2.out.mono ?_
    rintro e w' ⟨rfl, hw'⟩
    obtain rfl : w = w' := hw'.symm
    go_wp2_with fail
    refine H3.out.mono ?_
    rintro e w' ⟨rfl, hw'⟩
    obtain rfl : w = w' := hw'.symm
    go_wp2_with fail
    refine H4.out.mono ?_
    rintro e w' ⟨rfl, hw'⟩
    obtain rfl : w = w' := hw'.symm
    go_wp2_with fail
    refine H5.out.mono ?_
    rintro e w' ⟨rfl, hw'⟩
    obtain rfl : w = w' := hw'.symm
    go_wp2_with fail
    refine H6.out.mono ?_
    rintro e w' ⟨rfl, hw'⟩
    obtain rfl : w = w' := hw'.symm
    go_wp2
    go_ret
    exact ⟨rfl, rfl⟩
  · have f1 : (s1 == s2) = true := beq_iff_eq.2 cs
    have f2 : (h1 == h2) = false := beq_eq_false_iff_ne.2 ch
    have f3 : (P1 == P2) = false := beq_eq_false_iff_ne.2 (fun e => by have := g1.out.1 e; omega)
    have f4 : decide (0 ≤ s1) = true := by simpa using c1
    have f5 : (P1 == 0) = false := beq_eq_false_iff_ne.2 (g2.out c1)
    have f6 : decide (0 ≤ s2) = true := by simpa using c2
    have f7 : (P2 == 0) = false := beq_eq_false_iff_ne.2 (g3.out c2)
    clear cs ch c1 c2 g1 g2 g3 g4
    go_enter Try.func4, Try.ntmps4
    go_wp2_with fail
    refine H1.out.mono ?_
    rintro e w' ⟨rfl, hw'⟩
    obtain rfl : w = w' := hw'.symm
    go_wp2_with fail
    refine H2.out.mono ?_
    rintro e w' ⟨rfl, hw'⟩
    obtain rfl : w = w' := hw'.symm
    go_wp2_with fail
    refine H3.out.mono ?_
    rintro e w' ⟨rfl, hw'⟩
    obtain rfl : w = w' := hw'.symm
    go_wp2_with fail
    refine H4.out.mono ?_
    rintro e w' ⟨rfl, hw'⟩
    obtain rfl : w = w' := hw'.symm
    go_wp2_with fail
    refine H5.out.mono ?_
    rintro e w' ⟨rfl, hw'⟩
    obtain rfl : w = w' := hw'.symm
    go_wp2_with fail
    refine H6.out.mono ?_
    rintro e w' ⟨rfl, hw'⟩
    obtain rfl : w = w' := hw'.symm
    go_wp2
    go_ret
    exact ⟨rfl, rfl⟩
  · omega
  · omega
  · have f1 : (s1 == s2) = true := beq_iff_eq.2 cs
    have f2 : (h1 == h2) = false := beq_eq_false_iff_ne.2 ch
    have f3 : (P1 == P2) = false := beq_eq_false_iff_ne.2 (fun e => by have := g1.out.1 e; omega)
    have f4 : decide (0 ≤ s1) = false := by simpa using c1
    have f6 : decide (0 ≤ s2) = false := by simpa using c2
    clear cs ch c1 c2 g1 g2 g3 g4
    go_enter Try.func4, Try.ntmps4
    go_wp2_with fail
    refine H1.out.mono ?_
    rintro e w' ⟨rfl, hw'⟩
    obtain rfl : w = w' := hw'.symm
    go_wp2_with fail
    refine H2.out.mono ?_
    rintro e w' ⟨rfl, hw'⟩
    obtain rfl : w = w' := hw'.symm
    go_wp2_with fail
    refine H3.out.mono ?_
    rintro e w' ⟨rfl, hw'⟩
    obtain rfl : w = w' := hw'.symm
    go_wp2_with fail
    refine H4.out.mono ?_
    rintro e w' ⟨rfl, hw'⟩
    obtain rfl : w = w' := hw'.symm
    go_wp2_with fail
    refine H5.out.mono ?_
    rintro e w' ⟨rfl, hw'⟩
    obtain rfl : w = w' := hw'.symm
    go_wp2_with fail
    refine H6.out.mono ?_
    rintro e w' ⟨rfl, hw'⟩
    obtain rfl : w = w' := hw'.symm
    go_wp2
    go_ret
    exact ⟨rfl, rfl⟩
  · have f1 : (s1 == s2) = false := beq_eq_false_iff_ne.2 cs
    have f2 : (h1 == h2) = true := beq_iff_eq.2 ch
    have f3 : (P1 == P2) = false := beq_eq_false_iff_ne.2 (fun e => by have := g1.out.1 e; omega)
    have f4 : decide (0 ≤ s1) = true := by simpa using c1
    have f5 : (P1 == 0) = false := beq_eq_false_iff_ne.2 (g2.out c1)
    have f6 : decide (0 ≤ s2) = true := by simpa using c2
    have f7 : (P2 == 0) = false := beq_eq_false_iff_ne.2 (g3.out c2)
    have f8 : decide (P1 < P2) = decide (s1 < s2) := decide_eq_decide.2 (g4.out ch c1 c2)
    clear cs ch c1 c2 g1 g2 g3 g4
    go_enter Try.func4, Try.ntmps4
    go_wp2_with fail
    refine H1.out.mono ?_
    rintro e w' ⟨rfl, hw'⟩
    obtain rfl : w = w' := hw'.symm
    go_wp2_with fail
    refine H2.out.mono ?_
    rintro e w' ⟨rfl, hw'⟩
    obtain rfl : w = w' := hw'.symm
    go_wp2_with fail
    refine H3.out.mono ?_
    rintro e w' ⟨rfl, hw'⟩
    obtain rfl : w = w' := hw'.symm
    go_wp2_with fail
    refine H4.out.mono ?_
    rintro e w' ⟨rfl, hw'⟩
    obtain rfl : w = w' := hw'.symm
    go_wp2_with fail
    refine H5.out.mono ?_
    rintro e w' ⟨rfl, hw'⟩
    obtain rfl : w = w' := hw'.symm
    go_wp2_with fail
    refine H6.out.mono ?_
    rintro e w' ⟨rfl, hw'⟩
    obtain rfl : w = w' := hw'.symm
    go_wp2
    go_ret
    exact ⟨rfl, rfl⟩
  · have f1 : (s1 == s2) = false := beq_eq_false_iff_ne.2 cs
    have f2 : (h1 == h2) = true := beq_iff_eq.2 ch
    have f3 : (P1 == P2) = false := beq_eq_false_iff_ne.2 (fun e => by have := g1.out.1 e; omega)
    have f4 : decide (0 ≤ s1) = true := by simpa using c1
    have f5 : (P1 == 0) = false := beq_eq_false_iff_ne.2 (g2.out c1)
    have f6 : decide (0 ≤ s2) = false := by simpa using c2
    clear cs ch c1 c2 g1 g2 g3 g4
    go_enter Try.func4, Try.ntmps4
    go_wp2_with fail
    refine H1.out.mono ?_
    rintro e w' ⟨rfl, hw'⟩
    obtain rfl : w = w' := hw'.symm
    go_wp2_with fail
    refine H2.out.mono ?_
    rintro e w' ⟨rfl, hw'⟩
    obtain rfl : w = w' := hw'.symm
    go_wp2_with fail
    refine H3.out.mono ?_
    rintro e w' ⟨rfl, hw'⟩
    obtain rfl : w = w' := hw'.symm
    go_wp2_with fail
    refine H4.out.mono ?_
    rintro e w' ⟨rfl, hw'⟩
    obtain rfl : w = w' := hw'.symm
    go_wp2_with fail
    refine H5.out.mono ?_
    rintro e w' ⟨rfl, hw'⟩
    obtain rfl : w = w' := hw'.symm
    go_wp2_with fail
    refine H6.out.mono ?_
    rintro e w' ⟨rfl, hw'⟩
    obtain rfl : w = w' := hw'.symm
    go_wp2
    go_ret
    exact ⟨rfl, rfl⟩
  · have f1 : (s1 == s2) = false := beq_eq_false_iff_ne.2 cs
    have f2 : (h1 == h2) = true := beq_iff_eq.2 ch
    have f3 : (P1 == P2) = false := beq_eq_false_iff_ne.2 (fun e => by have := g1.out.1 e; omega)
    have f4 : decide (0 ≤ s1) = false := by simpa using c1
    have f6 : decide (0 ≤ s2) = true := by simpa using c2
    have f7 : (P2 == 0) = false := beq_eq_false_iff_ne.2 (g3.out c2)
    clear cs ch c1 c2 g1 g2 g3 g4
    go_enter Try.func4, Try.ntmps4
    go_wp2_with fail
    refine H1.out.mono ?_
    rintro e w' ⟨rfl, hw'⟩
    obtain rfl : w = w' := hw'.symm
    go_wp2_with fail
    refine H2.out.mono ?_
    rintro e w' ⟨rfl, hw'⟩
    obtain rfl : w = w' := hw'.symm
    go_wp2_with fail
    refine H3.out.mono ?_
    rintro e w' ⟨rfl, hw'⟩
    obtain rfl : w = w' := hw'.symm
    go_wp2_with fail
    refine H4.out.mono ?_
    rintro e w' ⟨rfl, hw'⟩
    obtain rfl : w = w' := hw'.symm
    go_wp2_with fail
    refine H5.out.mono ?_
    rintro e w' ⟨rfl, hw'⟩
    obtain rfl : w = w' := hw'.symm
    go_wp2_with fail
    refine H6.out.mono ?_
    rintro e w' ⟨rfl, hw'⟩
    obtain rfl : w = w' := hw'.symm
    go_wp2
    go_ret
    exact ⟨rfl, rfl⟩
  · have f1 : (s1 == s2) = false := beq_eq_false_iff_ne.2 cs
    have f2 : (h1 == h2) = true := beq_iff_eq.2 ch
    have f3 : (P1 == P2) = false := beq_eq_false_iff_ne.2 (fun e => by have := g1.out.1 e; omega)
    have f4 : decide (0 ≤ s1) = false := by simpa using c1
    have f6 : decide (0 ≤ s2) = false := by simpa using c2
    clear cs ch c1 c2 g1 g2 g3 g4
    go_enter Try.func4, Try.ntmps4
    go_wp2_with fail
    refine H1.out.mono ?_
    rintro e w' ⟨rfl, hw'⟩
    obtain rfl : w = w' := hw'.symm
    go_wp2_with fail
    refine H2.out.mono ?_
    rintro e w' ⟨rfl, hw'⟩
    obtain rfl : w = w' := hw'.symm
    go_wp2_with fail
    refine H3.out.mono ?_
    rintro e w' ⟨rfl, hw'⟩
    obtain rfl : w = w' := hw'.symm
    go_wp2_with fail
    refine H4.out.mono ?_
    rintro e w' ⟨rfl, hw'⟩
    obtain rfl : w = w' := hw'.symm
    go_wp2_with fail
    refine H5.out.mono ?_
    rintro e w' ⟨rfl, hw'⟩
    obtain rfl : w = w' := hw'.symm
    go_wp2_with fail
    refine H6.out.mono ?_
    rintro e w' ⟨rfl, hw'⟩
    obtain rfl : w = w' := hw'.symm
    go_wp2
    go_ret
    exact ⟨rfl, rfl⟩
  · have f1 : (s1 == s2) = false := beq_eq_false_iff_ne.2 cs
    have f2 : (h1 == h2) = false := beq_eq_false_iff_ne.2 ch
    have f3 : (P1 == P2) = false := beq_eq_false_iff_ne.2 (fun e => by have := g1.out.1 e; omega)
    have f4 : decide (0 ≤ s1) = true := by simpa using c1
    have f5 : (P1 == 0) = false := beq_eq_false_iff_ne.2 (g2.out c1)
    have f6 : decide (0 ≤ s2) = true := by simpa using c2
    have f7 : (P2 == 0) = false := beq_eq_false_iff_ne.2 (g3.out c2)
    clear cs ch c1 c2 g1 g2 g3 g4
    go_enter Try.func4, Try.ntmps4
    go_wp2_with fail
    refine H1.out.mono ?_
    rintro e w' ⟨rfl, hw'⟩
    obtain rfl : w = w' := hw'.symm
    go_wp2_with fail
    refine H2.out.mono ?_
    rintro e w' ⟨rfl, hw'⟩
    obtain rfl : w = w' := hw'.symm
    go_wp2_with fail
    refine H3.out.mono ?_
    rintro e w' ⟨rfl, hw'⟩
    obtain rfl : w = w' := hw'.symm
    go_wp2_with fail
    refine H4.out.mono ?_
    rintro e w' ⟨rfl, hw'⟩
    obtain rfl : w = w' := hw'.symm
    go_wp2_with fail
    refine H5.out.mono ?_
    rintro e w' ⟨rfl, hw'⟩
    obtain rfl : w = w' := hw'.symm
    go_wp2_with fail
    refine H6.out.mono ?_
    rintro e w' ⟨rfl, hw'⟩
    obtain rfl : w = w' := hw'.symm
    go_wp2
    go_ret
    exact ⟨rfl, rfl⟩
  · have f1 : (s1 == s2) = false := beq_eq_false_iff_ne.2 cs
    have f2 : (h1 == h2) = false := beq_eq_false_iff_ne.2 ch
    have f3 : (P1 == P2) = false := beq_eq_false_iff_ne.2 (fun e => by have := g1.out.1 e; omega)
    have f4 : decide (0 ≤ s1) = true := by simpa using c1
    have f5 : (P1 == 0) = false := beq_eq_false_iff_ne.2 (g2.out c1)
    have f6 : decide (0 ≤ s2) = false := by simpa using c2
    clear cs ch c1 c2 g1 g2 g3 g4
    go_enter Try.func4, Try.ntmps4
    go_wp2_with fail
    refine H1.out.mono ?_
    rintro e w' ⟨rfl, hw'⟩
    obtain rfl : w = w' := hw'.symm
    go_wp2_with fail
    refine H2.out.mono ?_
    rintro e w' ⟨rfl, hw'⟩
    obtain rfl : w = w' := hw'.symm
    go_wp2_with fail
    refine H3.out.mono ?_
    rintro e w' ⟨rfl, hw'⟩
    obtain rfl : w = w' := hw'.symm
    go_wp2_with fail
    refine H4.out.mono ?_
    rintro e w' ⟨rfl, hw'⟩
    obtain rfl : w = w' := hw'.symm
    go_wp2_with fail
    refine H5.out.mono ?_
    rintro e w' ⟨rfl, hw'⟩
    obtain rfl : w = w' := hw'.symm
    go_wp2_with fail
    refine H6.out.mono ?_
    rintro e w' ⟨rfl, hw'⟩
    obtain rfl : w = w' := hw'.symm
    go_wp2
    go_ret
    exact ⟨rfl, rfl⟩
  · have f1 : (s1 == s2) = false := beq_eq_false_iff_ne.2 cs
    have f2 : (h1 == h2) = false := beq_eq_false_iff_ne.2 ch
    have f3 : (P1 == P2) = false := beq_eq_false_iff_ne.2 (fun e => by have := g1.out.1 e; omega)
    have f4 : decide (0 ≤ s1) = false := by simpa using c1
    have f6 : decide (0 ≤ s2) = true := by simpa using c2
    have f7 : (P2 == 0) = false := beq_eq_false_iff_ne.2 (g3.out c2)
    clear cs ch c1 c2 g1 g2 g3 g4
    go_enter Try.func4, Try.ntmps4
    go_wp2_with fail
    refine H1.out.mono ?_
    rintro e w' ⟨rfl, hw'⟩
    obtain rfl : w = w' := hw'.symm
    go_wp2_with fail
    refine H2.out.mono ?_
    rintro e w' ⟨rfl, hw'⟩
    obtain rfl : w = w' := hw'.symm
    go_wp2_with fail
    refine H3.out.mono ?_
    rintro e w' ⟨rfl, hw'⟩
    obtain rfl : w = w' := hw'.symm
    go_wp2_with fail
    refine H4.out.mono ?_
    rintro e w' ⟨rfl, hw'⟩
    obtain rfl : w = w' := hw'.symm
    go_wp2_with fail
    refine H5.out.mono ?_
    rintro e w' ⟨rfl, hw'⟩
    obtain rfl : w = w' := hw'.symm
    go_wp2_with fail
    refine H6.out.mono ?_
    rintro e w' ⟨rfl, hw'⟩
    obtain rfl : w = w' := hw'.symm
    go_wp2
    go_ret
    exact ⟨rfl, rfl⟩
  · have f1 : (s1 == s2) = false := beq_eq_false_iff_ne.2 cs
    have f2 : (h1 == h2) = false := beq_eq_false_iff_ne.2 ch
    have f3 : (P1 == P2) = false := beq_eq_false_iff_ne.2 (fun e => by have := g1.out.1 e; omega)
    have f4 : decide (0 ≤ s1) = false := by simpa using c1
    have f6 : decide (0 ≤ s2) = false := by simpa using c2
    clear cs ch c1 c2 g1 g2 g3 g4
    go_enter Try.func4, Try.ntmps4
    go_wp2_with fail
    refine H1.out.mono ?_
    rintro e w' ⟨rfl, hw'⟩
    obtain rfl : w = w' := hw'.symm
    go_wp2_with fail
    refine H2.out.mono ?_
    rintro e w' ⟨rfl, hw'⟩
    obtain rfl : w = w' := hw'.symm
    go_wp2_with fail
    refine H3.out.mono ?_
    rintro e w' ⟨rfl, hw'⟩
    obtain rfl : w = w' := hw'.symm
    go_wp2_with fail
    refine H4.out.mono ?_
    rintro e w' ⟨rfl, hw'⟩
    obtain rfl : w = w' := hw'.symm
    go_wp2_with fail
    refine H5.out.mono ?_
    rintro e w' ⟨rfl, hw'⟩
    obtain rfl : w = w' := hw'.symm
    go_wp2_with fail
    refine H6.out.mono ?_
    rintro e w' ⟨rfl, hw'⟩
    obtain rfl : w = w' := hw'.symm
    go_wp2
    go_ret
    exact ⟨rfl, rfl⟩

theorem two (s1 h1 s2 h2 : Int) (w : World) (a1 : -2147483648 ≤ s1) (a2 : s1 ≤ 2147483647) (a3 : 0 ≤ h1) (a4 : h1 ≤ 4294967295) (b1 : -2147483648 ≤ s2) (b2 : s2 ≤ 2147483647) (b3 : 0 ≤ h2) (b4 : h2 ≤ 4294967295) :
    Calls Try.prog 4 #[.int .i32 s1, .int .u32 h1, .int .i32 s2, .int .u32 h2] w fun e w' => e = .returned (.bool true) ∧ w' = w := by
  have d1 := pl_bd s1 h1 a3 a4
  have d2 := pl_bd s2 h2 b3 b4
  have c3 := slot_any (pl s1 h1) w d1.1 d1.2
  have c4 := hash_any (pl s1 h1) w d1.1 d1.2
  have c5 := slot_any (pl s2 h2) w d2.1 d2.2
  have c6 := hash_any (pl s2 h2) w d2.1 d2.2
  rw [pl_slot s1 h1 a1 a2] at c3
  rw [pl_hash] at c4
  rw [pl_slot s2 h2 b1 b2] at c5
  rw [pl_hash] at c6
  refine two_at s1 h1 s2 h2 (pl s1 h1) (pl s2 h2) w (place_any s1 h1 w a1 a2 a3 a4) (place_any s2 h2 w b1 b2 b3 b4) c3 c4 c5 c6 ⟨fun e => pl_inj s1 h1 s2 h2 a1 a2 a3 a4 b1 b2 b3 b4 e, fun e => by rw [e.1, e.2]⟩ (fun h => pl_taken s1 h1 a2 a3 h) (fun h => pl_taken s2 h2 b2 b3 h) (fun e h h' => ?_)
  subst e
  exact pl_lt s1 s2 h1 h a2 h' b2
end Go.Proofs.Qxb6618676a
