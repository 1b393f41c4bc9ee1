/-
  THE CALLEE tellsOf: it tells where there is a heading and three paragraphs or more.
-/
import Derived.Test.Qxb6618690aChecked
import Derived.WalkKit
import Derived.WalkSpells
import Derived.WalkLawsBesides
import Derived.RowKit3
import Derived.Deep.WholeRow
import Derived.Deep.MidRow
namespace Go.Proofs.Qxb6618690a
open Go.RowKit
set_option linter.unusedVariables false

/-- It tells. -/
def tl (h p : Int) : Bool := decide (h ≠ 0) && decide (3 ≤ p)

theorem size38 : (Try.prog.info? 38).map (·.size) = some 24 := by kernel_rfl

/-- tells, over a tally whose cells are whatever but for the two that it reads. -/
theorem tells_any (cs : Array Value) (h p : Int) (w : World) (h12 : cs[12]? = some (.int .i64 h)) (h3 : cs[3]? = some (.int .i64 p)) :
    Calls Try.prog 23 #[.agg cs] w fun e w' => e = .returned (.bool (tl h p)) ∧ w' = w.alloc (.cells cs 38) := by
  have c12 : (w.alloc (.cells cs 38)).cell? ⟨w.heap.size, 12, none⟩ = some (.int .i64 h) := by rw [cell_of_row _ _ _ _ _ _ (heap_alloc_new w _)]; exact h12
  have c3 : (w.alloc (.cells cs 38)).cell? ⟨w.heap.size, 3, none⟩ = some (.int .i64 p) := by rw [cell_of_row _ _ _ _ _ _ (heap_alloc_new w _)]; exact h3
  by_cases g1 : h = 0
  · have e : tl h p = false := by simp [tl, g1]
    have f1 : (h != 0) = false := by simp [g1]
    rw [e]
    clear e g1 h12 h3
    go_enter Try.func23, Try.ntmps23
    go_wp2
    go_ret
    exact ⟨rfl, rfl⟩
  · have e : tl h p = decide (3 ≤ p) := by simp [tl, g1]
    have f1 : (h != 0) = true := by simp [g1]
    rw [e]
    clear e g1 h12 h3
    go_enter Try.func23, Try.ntmps23
    go_wp2
    go_ret
    exact ⟨rfl, rfl⟩

/-- A whole struct is stored into the block that was made last. -/
theorem wpList_store_new {P : Program} {ops : Array Oper} {rest : List Oper} {op : Oper} {a : Act} {w : World} {Q : Exit → Act → World → Prop} (hgd : op.guard = none) (ty : TypeId) (x y : Operand) (ho : op.op = .store ty x y)
    (c c' : Array Value) (hx : a.eval x = .pointer (some ⟨w.heap.size, 0, none⟩)) (hy : a.eval y = .agg c') (hi : (P.info? ty).map (·.size) = some c'.size) (hs : c.size = c'.size) (h1 : c'.all (·.oneCell') = true)
    (h : wpList P ops Q rest (a.put op.dst undef) (w.alloc (.cells c' ty))) : wpList P ops Q (op :: rest) a (w.alloc (.cells c ty)) := by
  refine wpList_plain hgd fun K hK => ?_
  unfold Oper.wp execOp
  simp only [ho, hx, hy, Instr.storeAt, Instr.sureAddr, Sem.run_bind, Sem.run_pure, Result.andThen_ok, run_storeVar_new w ty c c' hi hs h1]
  exact hK _ _ h

theorem call_any (cs : Array Value) (h p : Int) (w : World) (hs : cs.size = 24) (h12 : cs[12]? = some (.int .i64 h)) (h3 : cs[3]? = some (.int .i64 p)) :
    Calls Try.prog 20 #[.agg cs] w fun e w' => e = .returned (.bool (tl h p)) ∧ w' = (w.alloc (.cells cs 38)).alloc (.cells cs 38) := by
  have hsz : (Try.prog.info? 38).map (·.size) = some cs.size := by rw [hs]; exact size38
  have HI : Hid ((Try.prog.info? 38).map (·.size) = some cs.size) := hsz
  have ht := fun w => tells_any cs h p w h12 h3
  have HT : Hid (∀ w, Calls Try.prog 23 #[.agg cs] w fun e w' => e = .returned (.bool (tl h p)) ∧ w' = w.alloc (.cells cs 38)) := ht
  clear hsz ht h12 h3 hs
  go_enter Try.func20, Try.ntmps20
  go_wp2_with (refine wpList_load_row rfl 38 (.tmp 1) rfl w.heap.size rfl 38 cs (0, 0) _ (heap_alloc_new w _) Try.underlying38 rfl HI.out ?_)
  refine (HT.out _).mono ?_
  rintro e w' ⟨rfl, rfl⟩
  go_wp2
  go_ret
  exact ⟨rfl, rfl⟩

/-- The cells of the tally that the law builds. -/
def tc (h p : Int) : Array Value := #[.int .i64 0, .int .i64 0, .int .i64 0, .int .i64 p, .int .i64 0, .int .i64 0, .int .i64 0, .int .i64 0, .bool false, .bool false, .bool false, .bool false, .int .i64 h, .bool false, .int .i64 0, .bool false, .bool false, .bool false, .int .i64 0, .int .i64 0, .int .i64 0, .int .i64 0, .int .i64 0, .int .i64 0]

theorem tc_one (h p : Int) : (tc h p).all (·.oneCell') = true := by simp [tc, Value.oneCell']
theorem tc_size (h p : Int) : (tc h p).size = 24 := rfl
theorem tc_12 (h p : Int) : (tc h p)[12]? = some (.int .i64 h) := rfl
theorem tc_3 (h p : Int) : (tc h p)[3]? = some (.int .i64 p) := rfl

theorem new_any (h p : Int) (w : World) :
    Calls Try.prog 19 #[.int .i64 0, .int .i64 0, .int .i64 0, .int .i64 0, .int .i64 p, .int .i64 h] w fun e w' => e = .returned (.agg (tc h p)) ∧ w' = w.alloc (.cells (tc h p) 38) := by
  go_enter Try.func19, Try.ntmps19
  go_wp2_with (refine wpList_store_new rfl 38 (.tmp 12) (.tmp 19) rfl _ (tc h p) rfl rfl size38 rfl (tc_one h p) ?_)
  exact bodyPost_ret (results_cell_row (p := 12) (ty := 38) rfl _ _ w.heap.size 38 (tc h p) (0, 0) _ rfl (heap_alloc_new w _) Try.underlying38 rfl size38) rfl ⟨rfl, rfl⟩

/-- tellsOf: three blocks more. -/
theorem of_any (h p : Int) (w : World) :
    Calls Try.prog 10 #[.int .i64 h, .int .i64 p] w fun e w' => e = .returned (.bool (tl h p)) ∧ Grown w w' := by
  go_enter Try.func10, Try.ntmps10
  go_wp2_with fail
  refine (new_any h p w).mono ?_
  rintro e w' ⟨rfl, hw'⟩
  go_wp2_with fail
  refine (call_any (tc h p) h p _ (tc_size h p) (tc_12 h p) (tc_3 h p)).mono ?_
  rintro e w2 ⟨rfl, hw2⟩
  go_wp2
  go_ret
  subst hw' hw2
  exact ⟨rfl, (((Grown.refl w).alloc _ _).alloc _ _).alloc _ _⟩

theorem Grown_trans {a b c : World} (h : Grown a b) (k : Grown b c) : Grown a c :=
  ⟨World.keptBut_trans h.1 k.1, fun x => (k.2.1 x).trans (h.2.1 x), Nat.le_trans h.2.2 k.2.2⟩

theorem of_val (h p : Int) (b : Bool) (w : World) (hb : tl h p = b) :
    Calls Try.prog 10 #[.int .i64 h, .int .i64 p] w fun e w' => e = .returned (.bool b) ∧ Grown w w' := by
  subst hb
  exact of_any h p w

theorem tl_zero (p : Int) : tl 0 p = false := by simp [tl]
theorem tl_no (h p : Int) (hp : p < 3) : tl h p = false := by
  have : ¬ 3 ≤ p := by omega
  simp [tl, this]
theorem tl_yes (h p : Int) (hh : h ≠ 0) (hp : 3 ≤ p) : tl h p = true := by simp [tl, hh, hp]

end Go.Proofs.Qxb6618690a
