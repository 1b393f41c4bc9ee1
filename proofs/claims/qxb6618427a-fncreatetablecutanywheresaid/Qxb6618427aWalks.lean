/-
  THE CALLEES: createTable, ZZCreateTable, the bound on lengths.
-/
import Derived.Test.Qxb6618427aChecked
import Derived.Test.Qxb6618427aPlain
import Derived.WalkKit
import Derived.WalkSpells
import Derived.StillTactics
import Derived.Laws.Pointers
namespace Go.Proofs.Qxb6618427a
open Go.RowKit
set_option linter.unusedVariables false

/-- A slice of n strings in memory. -/
def Strs (w : World) (ao : Option Addr) (n : Nat) (ss : List ByteArray) : Prop :=
  ss.length = n ∧ (0 < n → ∃ b off, ao = some ⟨b, off, none⟩ ∧ ∀ j, j < n → w.cell? ⟨b, off + j, none⟩ = some (.string (ss.getD j ByteArray.empty)))

theorem take_snocB (ss : List ByteArray) (k : Nat) (h : k < ss.length) : ss.take (k + 1) = ss.take k ++ [ss.getD k ByteArray.empty] := by
  rw [List.take_succ_eq_append_getElem h]
  simp [List.getD, h]

theorem weight_take (ss : List ByteArray) (k : Nat) : weight (ss.take k) ≤ weight ss := by
  have e := weight_append (ss.take k) (ss.drop k)
  rw [List.take_append_drop] at e
  omega

theorem weight_one (c : ByteArray) : weight [c] = c.size + 2 := by simp [weight]

set_option maxHeartbeats 400000 in
theorem create_any (p : Nat) (t d : ByteArray) (ao : Option Addr) (n c : Nat) (ss : List ByteArray) (w : World) (ht : w.cell? ⟨p, 0, none⟩ = some (.string t)) (hd : w.cell? ⟨p, 1, none⟩ = some (.string d)) (hs : Strs w ao n ss)
    (hn : n ≤ 1048576) (hb : t.size + d.size + weight ss ≤ 8388608) :
    Calls Try.prog 6 #[.pointer (some ⟨p, 0, none⟩), .slice ao n c] w fun e w' => e = .returned (.string (ct t d ss)) ∧ w' = w := by
  obtain ⟨hl, hcell⟩ := hs
  go_enter Try.func6, Try.ntmps6
  go_wp2
  go_loop [5, 14] (fun s i => ∃ k : Nat, k ≤ n ∧ i = .int .i64 k ∧ s = .string (joinc d (ss.take k))) (fun _ i => n - (intOf i).toNat)
  case atStart => exact ⟨0, Nat.zero_le _, rfl, rfl⟩
  case round =>
    obtain ⟨k, hk, rfl, rfl⟩ := hrel
    by_cases hlt : k < n
    · obtain ⟨b, off, hao, hc⟩ := hcell (by omega)
      subst hao
      have hcx := hc k hlt
      have hts := take_snocB ss k (by omega)
      have hj := joinc_snoc d (ss.take k) (ss.getD k ByteArray.empty)
      rw [← hts] at hj
      have h1 := joinc_size d (ss.take (k + 1))
      have h2 := weight_take ss (k + 1)
      have h3 := joinc_size d (ss.take k)
      rw [hts, weight_append, weight_one] at h1 h2
      obtain ⟨x, hx⟩ : ∃ x, ss.getD k ByteArray.empty = x := ⟨_, rfl⟩
      rw [hx] at hcx hj h1 h2
      obtain ⟨J, hJ⟩ : ∃ J, joinc d (ss.take k) = J := ⟨_, rfl⟩
      rw [hJ] at hj h3 ⊢
      have HJ : Hid (joinc d (ss.take (k + 1)) = J ++ (commaB ++ x)) := hj
      have hJs : J.size + x.size ≤ 8388608 := by omega
      have hlt' : (k : Int) < (n : Int) := by omega
      clear hj hc hcell hts h1 h2 h3 hx hJ
      go_wp2
      go_round
      case rel => exact ⟨k + 1, by omega, by go_num, by rw [HJ.out]; rfl⟩
      case measure => simp [intOf]; omega
    · have hkn : k = n := by omega
      subst hkn
      rw [List.take_of_length_le (by omega)]
      have h3 := joinc_size d ss
      have hct : Hid (ct t d ss = head t ++ joinc d ss ++ closeB) := rfl
      obtain ⟨J, hJ⟩ : ∃ J, joinc d ss = J := ⟨_, rfl⟩
      rw [hJ] at h3 hct ⊢
      have hJs : t.size + J.size ≤ 8388608 := by omega
      clear hJ h3 hcell
      go_wp2
      go_ret
      rw [hct.out]
      exact ⟨rfl, rfl⟩

theorem Strs.alloc {w : World} {ao : Option Addr} {n : Nat} {ss : List ByteArray} (h : Strs w ao n ss) (o : Obj) : Strs (w.alloc o) ao n ss := by
  refine ⟨h.1, fun h0 => ?_⟩
  obtain ⟨b, off, hao, hc⟩ := h.2 h0
  refine ⟨b, off, hao, fun j hj => ?_⟩
  have hcj := hc j hj
  have hb := World.block_lt_of_cell? w _ hcj
  rw [World.cell?_of_block (w := w) (Below.heap_alloc w o b hb)]
  exact hcj

theorem zcreate_any (t d : ByteArray) (ao : Option Addr) (n c : Nat) (ss : List ByteArray) (w : World) (hs : Strs w ao n ss) (hn : n ≤ 1048576) (hb : t.size + d.size + weight ss ≤ 8388608) :
    Calls Try.prog 5 #[.string t, .string d, .slice ao n c] w fun e w' => e = .returned (.string (ct t d ss)) ∧ w.grownBy w' none := by
  go_enter Try.func5, Try.ntmps5
  go_wp2_with fail
  refine (create_any w.heap.size t d ao n c ss _ ?_ ?_ (hs.alloc _) hn hb).mono ?_
  · rw [cell_of_row _ _ _ _ _ _ (heap_alloc_new w _)]; rfl
  · rw [cell_of_row _ _ _ _ _ _ (heap_alloc_new w _)]; rfl
  · rintro e w' ⟨rfl, hw'⟩
    subst hw'
    go_wp2
    go_ret
    exact ⟨rfl, World.grownBy_alloc w _ none⟩

/-- A bool is returned; where it says yes no string is long. -/
def IsBool (n : Nat) (ss : List ByteArray) (e : Ending) : Prop := ∃ b, e = .returned (.bool b) ∧ (b = true → ∀ j, j < n → (ss.getD j ByteArray.empty).size ≤ 1048576)

/-- The bound on lengths: it answers, and nothing turns. -/
theorem bytes_any (t d : ByteArray) (ao : Option Addr) (n c : Nat) (ss : List ByteArray) (kk : Int) (w : World) (hs : Strs w ao n ss) :
    Calls Try.prog 4 #[.string t, .string d, .slice ao n c, .int .i64 kk] w fun e w' => IsBool n ss e ∧ w' = w := by
  obtain ⟨hl, hcell⟩ := hs
  by_cases h1 : 1048576 < t.size
  · go_enter Try.func4, Try.ntmps4
    go_wp2
    go_ret
    exact ⟨⟨false, rfl, fun h => by cases h⟩, rfl⟩
  by_cases h2 : 1048576 < d.size
  · go_enter Try.func4, Try.ntmps4
    go_wp2
    go_ret
    exact ⟨⟨false, rfl, fun h => by cases h⟩, rfl⟩
  by_cases h3 : 1048576 < t.size + d.size
  · go_enter Try.func4, Try.ntmps4
    go_wp2
    go_ret
    exact ⟨⟨false, rfl, fun h => by cases h⟩, rfl⟩
  by_cases h4 : 1048576 < n
  · go_enter Try.func4, Try.ntmps4
    go_wp2
    go_ret
    exact ⟨⟨false, rfl, fun h => by cases h⟩, rfl⟩
  by_cases h5 : 1048576 < t.size + d.size + n
  · go_enter Try.func4, Try.ntmps4
    go_wp2
    go_ret
    exact ⟨⟨false, rfl, fun h => by cases h⟩, rfl⟩
  go_enter Try.func4, Try.ntmps4
  go_wp2
  go_loop [9, 10] (fun s i => ∃ k z : Nat, k ≤ n ∧ i = .int .i64 k ∧ s = .int .i64 z ∧ z ≤ 1048576 ∧ Hid (∀ j, j < k → (ss.getD j ByteArray.empty).size ≤ 1048576)) (fun _ i => n - (intOf i).toNat)
  case atStart => exact ⟨0, t.size + d.size + n, Nat.zero_le _, rfl, by go_num, by omega, fun j hj => by omega⟩
  case round =>
    obtain ⟨k, z, hk, rfl, rfl, hz, HA⟩ := hrel
    by_cases hlt : k < n
    · obtain ⟨b, off, hao, hc⟩ := hcell (by omega)
      subst hao
      have hcx := hc k hlt
      obtain ⟨x, hx⟩ : ∃ x, ss.getD k ByteArray.empty = x := ⟨_, rfl⟩
      rw [hx] at hcx
      have hlt' : (k : Int) < (n : Int) := by omega
      have HX : Hid (ss.getD k ByteArray.empty = x) := hx
      clear hc hcell hx
      by_cases g1 : 1048576 < x.size
      · go_wp2
        go_ret
        exact ⟨⟨false, rfl, fun h => by cases h⟩, rfl⟩
      by_cases g2 : 1048576 < z + x.size
      · go_wp2
        go_ret
        exact ⟨⟨false, rfl, fun h => by cases h⟩, rfl⟩
      go_wp2
      go_round
      case rel =>
        refine ⟨k + 1, z + x.size, by omega, by go_num, by go_num, by omega, fun j hj => ?_⟩
        by_cases hjk : j = k
        · subst hjk; rw [HX.out]; omega
        · exact HA.out j (by omega)
      case measure => simp [intOf]; omega
    · have hkn : k = n := by omega
      subst hkn
      go_wp2
      go_ret
      exact ⟨⟨true, rfl, fun _ => HA.out⟩, rfl⟩
end Go.Proofs.Qxb6618427a
