/-
  THE LAW's WALK.
-/
import Derived.Test.Qxb6618427aWalks
import Derived.Laws.CopyOwn
namespace Go.Proofs.Qxb6618427a
open Go.RowKit
set_option linter.unusedVariables false

theorem info9 : (Try.prog.info? 9).map (fun i => (i.zero, i.size, i.bytes)) = some (some (.string ⟨#[]⟩), 1, 16) := by kernel_rfl
theorem size9 : (Try.prog.info? 9).map (·.size) = some 1 := by kernel_rfl

def strsV (ss : List ByteArray) : List Value := ss.map Value.string

theorem below_strs {w w' : World} {ao : Option Addr} {n : Nat} {ss : List ByteArray} (hb : Below w.heap.size w w') (h : Strs w ao n ss) : Strs w' ao n ss := by
  refine ⟨h.1, fun h0 => ?_⟩
  obtain ⟨b, off, hao, hc⟩ := h.2 h0
  refine ⟨b, off, hao, fun j hj => ?_⟩
  have hcj := hc j hj
  rw [hb.cell (World.block_lt_of_cell? w _ hcj)]
  exact hcj

theorem below_grown {w w' : World} (h : w.grownBy w' none) : Below w.heap.size w w' := ⟨h.os, h.tape, h.output, h.size, fun k hk => h.block k hk (by simp)⟩

/-- The first elements of a slice of strings. -/
theorem Strs.take {w : World} {ao : Option Addr} {n : Nat} {ss : List ByteArray} (h : Strs w ao n ss) (k : Nat) (hk : k ≤ n) : Strs w ao k (ss.take k) := by
  obtain ⟨hl, hc⟩ := h
  refine ⟨by simp; omega, fun h0 => ?_⟩
  obtain ⟨b, off, hao, hcc⟩ := hc (by omega)
  refine ⟨b, off, hao, fun j hj => ?_⟩
  rw [hcc j (by omega)]
  simp [List.getD, hj]

/-- The last elements of a slice of strings that begins at its block's head. -/
theorem Strs.drop {w : World} {g n : Nat} {ss : List ByteArray} (h : Strs w (some ⟨g, 0, none⟩) n ss) (k : Nat) (hk : k < n) : Strs w (some ⟨g, k, none⟩) (n - k) (ss.drop k) := by
  obtain ⟨hl, hc⟩ := h
  refine ⟨by simp; omega, fun h0 => ?_⟩
  obtain ⟨b, off, hao, hcc⟩ := hc (by omega)
  simp at hao
  obtain ⟨rfl, rfl⟩ := hao
  refine ⟨g, k, rfl, fun j hj => ?_⟩
  have h := hcc (k + j) (by omega)
  rw [Nat.zero_add] at h
  rw [h]
  simp [List.getD]

/-- The copy that the law makes. -/
theorem copied {w : World} {g n : Nat} {ss : List ByteArray} {cur : List Value} (hl : ss.length = n) (hcl : cur.length = n) (h : w.heap[g]? = some (.cells (splice cur 0 (strsV ss)).toArray 9 (0, 0))) : Strs w (some ⟨g, 0, none⟩) n ss := by
  have e : splice cur 0 (strsV ss) = strsV ss := by
    unfold splice
    rw [List.take_zero, List.nil_append, List.drop_eq_nil_of_le (by simp [strsV]; omega), List.append_nil]
  rw [e] at h
  refine ⟨hl, fun h0 => ⟨g, 0, rfl, fun j hj => ?_⟩⟩
  rw [cell_of_row w g _ _ _ _ h]
  have hj' : j < ss.length := by omega
  simp [strsV, List.getD, hj']

/-- What the law's own bound counts. -/
def w16 (ss : List ByteArray) : Nat := (ss.map fun c => c.size + 16).sum
theorem w16_snoc (ss : List ByteArray) (c : ByteArray) : w16 (ss ++ [c]) = w16 ss + (c.size + 16) := by simp [w16]
theorem weight_le (ss : List ByteArray) : weight ss ≤ w16 ss := by
  induction ss with
  | nil => simp [weight, w16]
  | cons c cs ih =>
    simp only [weight, w16, List.map_cons, List.sum_cons] at ih ⊢
    omega

set_option maxRecDepth 100000 in
set_option maxHeartbeats 4000000 in
theorem top_some (t d : ByteArray) (ad : Addr) (n c : Nat) (ss : List ByteArray) (kk : Int) (w : World) (hs : Strs w (some ad) n ss) (h1 : t.size ≤ 1048576) (h2 : d.size ≤ 1048576) (h3 : n ≤ 65536) :
    Calls Try.prog 3 #[.string t, .string d, .slice (some ad) n c, .int .i64 kk] w fun e w' => e = .returned (.bool true) ∧ Below w.heap.size w w' := by
  obtain ⟨i0, hi, hz0, hz1, hz2⟩ := info_parts info9
  have hne := fun wx => run_neq_slice_nil_any (P := Try.prog) wx 22 9 (some ad) n c 0 0 Try.underlying22
  go_enter Try.func3, Try.ntmps3
  go_wp2_with fail
  refine (bytes_any t d (some ad) n c ss kk w hs).mono ?_
  rintro e w' ⟨⟨b, rfl, hlong⟩, hw'⟩
  obtain rfl : w = w' := hw'.symm
  cases b
  · go_wp2
    go_ret
    exact ⟨rfl, Below.refl _ _⟩
  have HL : Hid (∀ j, j < n → (ss.getD j ByteArray.empty).size ≤ 1048576) := hlong rfl
  clear hlong
  go_wp2_with (at_make; refine wpList_make_full _ rfl _ _ 22 rfl w.heap.size 9 i0 (.string ⟨#[]⟩) 1 Try.underlying22 hi hz0 hz1 _ _ _ _ n rfl rfl rfl rfl (by rw [hz2]; omega) (by unfold maxLen; omega) (Nat.le_refl _) ?_)
  intro w1 hown hgrow
  obtain ⟨cur, hcl, hg1⟩ : ∃ cur : List Value, cur.length = n ∧ w1.heap[w.heap.size]? = some (.cells cur.toArray 9 (0, 0)) := by
    rcases hown.2 with ⟨e, _⟩ | ⟨g', cap', cur, e, _, hh, _, _, hcs, _⟩
    · simp at e
    · simp at e
      obtain ⟨rfl, rfl⟩ := e
      exact ⟨cur.toList, by simpa using hcs, by simpa using hh⟩
  have hb1 := below_grown hgrow
  have hs1 := below_strs hb1 hs
  have hsv : (strsV ss).length = n := by simp [strsV, hs.1]
  have hsv' : (strsV ss).length = Nat.min n n := by rw [hsv]; simp
  have hone : ∀ v ∈ strsV ss, v.oneCell' = true := by
    intro v hv
    obtain ⟨s, _, rfl⟩ := List.mem_map.1 hv
    rfl
  have hpos : 0 < (strsV ss).length → (some (⟨w.heap.size, 0, none⟩ : Addr)) = some ⟨w.heap.size, 0, none⟩ ∧ ∃ ad', some ad = some ad' ∧ ∀ j v, (strsV ss)[j]? = some v → w1.cell? (ad'.add j) = some v := by
    intro h0
    refine ⟨rfl, ad, rfl, fun j v hv => ?_⟩
    obtain ⟨b, off, hao, hc⟩ := hs1.2 (by omega)
    obtain rfl := Option.some.inj hao
    have hj : j < ss.length := by
      have := (List.getElem?_eq_some_iff.1 hv).1
      simpa [strsV] using this
    rw [Addr.add_lit, hc j (by have := hs.1; omega)]
    simpa [strsV, List.getD, hj] using hv
  have HG : Hid (w1.heap[w.heap.size]? = some (.cells cur.toArray 9 (0, 0))) := hg1
  have HP : Hid (0 < (strsV ss).length → (some (⟨w.heap.size, 0, none⟩ : Addr)) = some ⟨w.heap.size, 0, none⟩ ∧ ∃ ad', some ad = some ad' ∧ ∀ j v, (strsV ss)[j]? = some v → w1.cell? (ad'.add j) = some v) := hpos
  have HO : Hid (∀ v ∈ strsV ss, v.oneCell' = true) := hone
  have HS : Hid ((strsV ss).length = Nat.min n n) := hsv'
  have hfit : 0 + (strsV ss).length ≤ cur.length := by omega
  clear hg1 hpos hone hown hgrow hsv'
  go_wp2_with (refine wpList_copy_splice rfl (.tmp 44) (.tmp 45) 22 22 rfl 9 Try.underlying22 size9 (some ⟨w.heap.size, 0, none⟩) (some ad) n n n c rfl rfl w.heap.size 0 cur 9 HG.out (strsV ss) HS.out HP.out hfit HO.out w.heap.size w hb1 (Nat.le_refl _) ?_)
  intro w2 HG2 hb2
  have hS2 := copied hs.1 hcl HG2.out
  obtain ⟨g, hg⟩ : ∃ g, g = w.heap.size := ⟨_, rfl⟩
  rw [← hg] at hS2 ⊢
  clear HG2 HG HP HO HS hfit hcl hs1 hb1 hs hne hg hsv
  obtain ⟨hl, hcell⟩ := hS2
  have HS : Hid (Strs w2 (some ⟨g, 0, none⟩) n ss) := ⟨hl, hcell⟩
  by_cases hT : t.size + d.size ≤ 1048576
  case neg =>
    go_wp2
    go_ret
    exact ⟨rfl, hb2⟩
  go_wp2
  go_loop [10, 11] (fun s i => ∃ k z : Nat, k ≤ n ∧ i = .int .i64 k ∧ s = .int .i64 z ∧ z ≤ 1048576 ∧ z = t.size + d.size + w16 (ss.take k)) (fun _ i => n - (intOf i).toNat)
  case atStart => exact ⟨0, t.size + d.size, Nat.zero_le _, rfl, by go_num, by omega, rfl⟩
  case round =>
    obtain ⟨k, z, hk, rfl, rfl, hz, hze⟩ := hrel
    have HZ : Hid (z = t.size + d.size + w16 (ss.take k)) := hze
    clear hze
    by_cases hlt : k < n
    · obtain ⟨b, off, hao, hc⟩ := hcell (by omega)
      simp at hao
      obtain ⟨rfl, rfl⟩ := hao
      have hcx := hc k hlt
      rw [Nat.zero_add] at hcx
      have hts := take_snocB ss k (by omega)
      obtain ⟨x, hx⟩ : ∃ x, ss.getD k ByteArray.empty = x := ⟨_, rfl⟩
      rw [hx] at hcx hts
      have hxl : x.size ≤ 1048576 := hx ▸ HL.out k hlt
      have HT : Hid (ss.take (k + 1) = ss.take k ++ [x]) := hts
      have hlt' : (k : Int) < (n : Int) := by omega
      clear hc hcell hx hts
      by_cases hz2 : z + (16 + x.size) ≤ 1048576
      · go_wp2
        go_round
        case rel => exact ⟨k + 1, z + (16 + x.size), by omega, by go_num, by go_num, hz2, by rw [HT.out, w16_snoc, HZ.out]; omega⟩
        case measure => simp [intOf]; omega
      · go_wp2
        go_ret
        exact ⟨rfl, hb2⟩
    · have hkn : k = n := by omega
      subst hkn
      have hwt : t.size + d.size + weight ss ≤ 1048576 := by
        have h1 := HZ.out
        have h2 := weight_le ss
        rw [List.take_of_length_le (by omega)] at h1
        omega
      clear HL hcell
      by_cases hkk0 : kk < 0
      · go_wp2
        go_ret
        exact ⟨rfl, hb2⟩
      by_cases hkk1 : (k : Int) < kk
      · have hd0 : decide (kk < 0) = false := by simp; omega
        go_wp2
        go_ret
        exact ⟨rfl, hb2⟩
      obtain ⟨m, rfl⟩ : ∃ m : Nat, kk = m := ⟨kk.toNat, by omega⟩
      have hm : m ≤ k := by omega
      clear hkk0 hkk1
      have hq0 : ((ct t d []).toList == (preB ++ t ++ openB ++ d ++ closeB).toList) = true := by simp [ct, head, joinc]
      have HS0 := HS.out
      have hw0 : weight [] = 0 := rfl
      by_cases hk0 : 0 < k
      · go_wp2_with fail
        refine (zcreate_any t d none 0 0 [] w2 ⟨rfl, fun h => by omega⟩ (by omega) (by omega)).mono ?_
        rintro e w3 ⟨rfl, hg3⟩
        have hS3 := below_strs (below_grown hg3) HS0
        have hb3 := hb2.trans ((below_grown hg3).mono hb2.size)
        clear hg3 HS HS0
        unfold preB openB closeB at hq0
        go_wp2_with fail
        have hw1 := weight_take ss 1
        refine (zcreate_any t d (some ⟨g, 0, none⟩) 1 k (ss.take 1) w3 (hS3.take 1 hk0) (by omega) (by omega)).mono ?_
        rintro e w4 ⟨rfl, hg4⟩
        have hS4 := below_strs (below_grown hg4) hS3
        have hb4 := hb3.trans ((below_grown hg4).mono hb3.size)
        obtain ⟨c0, hc0⟩ : ∃ c0, ss.getD 0 ByteArray.empty = c0 := ⟨_, rfl⟩
        have ht1 : ss.take 1 = [c0] := by
          have h := take_snocB ss 0 (by omega)
          rw [hc0] at h
          simpa using h
        have hcell0 : w4.cell? ⟨g, 0, none⟩ = some (.string c0) := by
          obtain ⟨b, off, hao, hc⟩ := hS4.2 hk0
          simp at hao
          obtain ⟨rfl, rfl⟩ := hao
          have h := hc 0 hk0
          rw [hc0] at h
          exact h
        rw [ht1, weight_one] at hw1
        have hq1 : ((ct t d (ss.take 1)).toList == (ct t (d ++ commaB ++ c0) []).toList) = true := by rw [ht1, ct_one]; simp
        clear hg4 hS3 hb3 hq0 hc0 ht1
        unfold commaB at hq1
        go_wp2_with fail
        refine (zcreate_any t _ none 0 0 [] w4 ?_ ?_ ?_).mono ?_
        · exact ⟨rfl, fun h => by omega⟩
        · omega
        · rw [ByteArray.size_append, ByteArray.size_append, show (⟨#[44, 32]⟩ : ByteArray).size = 2 from rfl]
          omega
        rintro e w5 ⟨rfl, hg5⟩
        have hS5 := below_strs (below_grown hg5) hS4
        have hb5 := hb4.trans ((below_grown hg5).mono hb4.size)
        clear hg5 hS4 hb4 hcell0
        go_wp2_with fail
        have hwm := weight_take ss m
        refine (zcreate_any t d (some ⟨g, 0, none⟩) m k (ss.take m) w5 (hS5.take m hm) ?_ ?_).mono ?_
        · omega
        · omega
        rintro e w6 ⟨rfl, hg6⟩
        have hS6 := below_strs (below_grown hg6) hS5
        have hb6 := hb5.trans ((below_grown hg6).mono hb5.size)
        clear hg6 hS5 hb5 hq1
        have hcs := ct_size t d (ss.take m)
        have hhs := head_size t
        have hfr := ct_front t d (ss.take m)
        have hla := ct_last t d (ss.take m)
        have hmid := ct_mid t d (ss.take m)
        obtain ⟨L, hL⟩ : ∃ L, L = ct t d (ss.take m) := ⟨_, rfl⟩
        rw [← hL] at hcs hfr hla hmid ⊢
        have hL1 : t.size + 30 ≤ L.size := by omega
        have hL2 : L.size ≤ 8388608 := by omega
        have HM : Hid (L.extract (head t).size (L.size - 1) = joinc d (ss.take m)) := hmid
        have hh27 : 27 + t.size + 2 = (head t).size := by omega
        have hq2 : ((L.extract 0 (27 + t.size + 2)).toList == (preB ++ t ++ openB).toList) = true := by rw [hh27, hfr]; simp [head]
        have hlt1 : L.size - 1 < L.size := by omega
        have hq3 : (((L[L.size - 1]'hlt1).toNat : Int) != 41) = false := by rw [hla hlt1]; rfl
        have HM2 : Hid (L.extract (27 + t.size + 2) (L.size - 1) = joinc d (ss.take m)) := by show _ = _; rw [hh27]; exact HM.out
        unfold preB openB at hq2
        clear hL hcs hfr hmid hhs hla hh27 HM
        go_wp2_with fail
        refine (zcreate_any t d (some ⟨g, 0, none⟩) k k ss w6 hS6 ?_ ?_).mono ?_
        · omega
        · omega
        rintro e w7 ⟨rfl, hg7⟩
        have hS7 := below_strs (below_grown hg7) hS6
        have hb7 := hb6.trans ((below_grown hg7).mono hb6.size)
        clear hg7 hS6 hb6
        have hwd : weight (ss.take m) + weight (ss.drop m) = weight ss := by rw [← weight_append, List.take_append_drop]
        have hes : (L.extract (27 + t.size + 2) (L.size - 1)).size = d.size + weight (ss.take m) := by rw [HM2.out, joinc_size]
        have hq4 : ((ct t d ss).toList == (ct t (L.extract (27 + t.size + 2) (L.size - 1)) (ss.drop m)).toList) = true := by rw [HM2.out, ← ct_cut]; simp
        have hbig : t.size + (L.extract (27 + t.size + 2) (L.size - 1)).size + weight (ss.drop m) ≤ 8388608 := by omega
        have HBIG : Hid (t.size + (L.extract (27 + t.size + 2) (L.size - 1)).size + weight (ss.drop m) ≤ 8388608) := hbig
        clear hbig hes hwd
        by_cases hmk : m < k
        · go_wp2_with fail
          refine (zcreate_any t _ (some ⟨g, m, none⟩) (k - m) (k - m) (ss.drop m) w7 ?_ ?_ ?_).mono ?_
          · exact hS7.drop m hmk
          · omega
          · exact HBIG.out
          rintro e w8 ⟨rfl, hg8⟩
          have hb8 := hb7.trans ((below_grown hg8).mono hb7.size)
          clear hg8 hS7 hb7
          go_wp2
          go_ret
          exact ⟨rfl, hb8⟩
        · have hmke : m = k := by omega
          have hdr : ss.drop m = [] := List.drop_eq_nil_of_le (by omega)
          rw [hdr] at hq4 HBIG
          subst hmke
          go_wp2_with fail
          refine (zcreate_any t _ (some ⟨g, 0, none⟩) 0 0 [] w7 ?_ ?_ ?_).mono ?_
          · exact ⟨rfl, fun h => by omega⟩
          · omega
          · exact HBIG.out
          rintro e w8 ⟨rfl, hg8⟩
          have hb8 := hb7.trans ((below_grown hg8).mono hb7.size)
          clear hg8 hS7 hb7
          go_wp2
          go_ret
          exact ⟨rfl, hb8⟩
      · go_wp2_with fail
        refine (zcreate_any t d none 0 0 [] w2 ⟨rfl, fun h => by omega⟩ (by omega) (by omega)).mono ?_
        rintro e w3 ⟨rfl, hg3⟩
        have hS3 := below_strs (below_grown hg3) HS0
        have hb3 := hb2.trans ((below_grown hg3).mono hb2.size)
        clear hg3 HS HS0
        unfold preB openB closeB at hq0
        go_wp2_with fail
        have hwm := weight_take ss m
        refine (zcreate_any t d (some ⟨g, 0, none⟩) m k (ss.take m) w3 (hS3.take m hm) ?_ ?_).mono ?_
        · omega
        · omega
        rintro e w6 ⟨rfl, hg6⟩
        have hS6 := below_strs (below_grown hg6) hS3
        have hb6 := hb3.trans ((below_grown hg6).mono hb3.size)
        clear hg6 hS3 hb3
        have hcs := ct_size t d (ss.take m)
        have hhs := head_size t
        have hfr := ct_front t d (ss.take m)
        have hla := ct_last t d (ss.take m)
        have hmid := ct_mid t d (ss.take m)
        obtain ⟨L, hL⟩ : ∃ L, L = ct t d (ss.take m) := ⟨_, rfl⟩
        rw [← hL] at hcs hfr hla hmid ⊢
        have hL1 : t.size + 30 ≤ L.size := by omega
        have hL2 : L.size ≤ 8388608 := by omega
        have HM : Hid (L.extract (head t).size (L.size - 1) = joinc d (ss.take m)) := hmid
        have hh27 : 27 + t.size + 2 = (head t).size := by omega
        have hq2 : ((L.extract 0 (27 + t.size + 2)).toList == (preB ++ t ++ openB).toList) = true := by rw [hh27, hfr]; simp [head]
        have hlt1 : L.size - 1 < L.size := by omega
        have hq3 : (((L[L.size - 1]'hlt1).toNat : Int) != 41) = false := by rw [hla hlt1]; rfl
        have HM2 : Hid (L.extract (27 + t.size + 2) (L.size - 1) = joinc d (ss.take m)) := by show _ = _; rw [hh27]; exact HM.out
        unfold preB openB at hq2
        clear hL hcs hfr hmid hhs hla hh27 HM
        go_wp2_with fail
        refine (zcreate_any t d (some ⟨g, 0, none⟩) k k ss w6 hS6 ?_ ?_).mono ?_
        · omega
        · omega
        rintro e w7 ⟨rfl, hg7⟩
        have hS7 := below_strs (below_grown hg7) hS6
        have hb7 := hb6.trans ((below_grown hg7).mono hb6.size)
        clear hg7 hS6 hb6
        have hwd : weight (ss.take m) + weight (ss.drop m) = weight ss := by rw [← weight_append, List.take_append_drop]
        have hes : (L.extract (27 + t.size + 2) (L.size - 1)).size = d.size + weight (ss.take m) := by rw [HM2.out, joinc_size]
        have hq4 : ((ct t d ss).toList == (ct t (L.extract (27 + t.size + 2) (L.size - 1)) (ss.drop m)).toList) = true := by rw [HM2.out, ← ct_cut]; simp
        have hbig : t.size + (L.extract (27 + t.size + 2) (L.size - 1)).size + weight (ss.drop m) ≤ 8388608 := by omega
        have HBIG : Hid (t.size + (L.extract (27 + t.size + 2) (L.size - 1)).size + weight (ss.drop m) ≤ 8388608) := hbig
        clear hbig hes hwd
        have hmke : m = k := by omega
        have hdr : ss.drop m = [] := List.drop_eq_nil_of_le (by omega)
        rw [hdr] at hq4 HBIG
        subst hmke
        go_wp2_with fail
        refine (zcreate_any t _ (some ⟨g, 0, none⟩) 0 0 [] w7 ?_ ?_ ?_).mono ?_
        · exact ⟨rfl, fun h => by omega⟩
        · omega
        · exact HBIG.out
        rintro e w8 ⟨rfl, hg8⟩
        have hb8 := hb7.trans ((below_grown hg8).mono hb7.size)
        clear hg8 hS7 hb7
        go_wp2
        go_ret
        exact ⟨rfl, hb8⟩

set_option maxRecDepth 100000 in
set_option maxHeartbeats 4000000 in
theorem top_none (t d : ByteArray) (kk : Int) (w : World) (h1 : t.size ≤ 1048576) (h2 : d.size ≤ 1048576) :
    Calls Try.prog 3 #[.string t, .string d, .slice none 0 0, .int .i64 kk] w fun e w' => e = .returned (.bool true) ∧ Below w.heap.size w w' := by
  have hne := fun wx => run_neq_slice_nil_any (P := Try.prog) wx 22 9 none 0 0 0 0 Try.underlying22
  have hw0 : weight [] = 0 := rfl
  go_enter Try.func3, Try.ntmps3
  go_wp2_with fail
  refine (bytes_any t d none 0 0 [] kk w ⟨rfl, fun h => by omega⟩).mono ?_
  rintro e w' ⟨⟨b, rfl, hlong⟩, hw'⟩
  obtain rfl : w = w' := hw'.symm
  clear hlong
  cases b
  · go_wp2
    go_ret
    exact ⟨rfl, Below.refl _ _⟩
  by_cases hT : t.size + d.size ≤ 1048576
  case neg =>
    go_wp2
    go_ret
    exact ⟨rfl, Below.refl _ _⟩
  by_cases hkk0 : kk < 0
  · go_wp2
    refine wp_loop_rounds 1 ?_
    rw [rounds_succ]
    go_wp2
    go_ret
    exact ⟨rfl, Below.refl _ _⟩
  by_cases hkk1 : 0 < kk
  · have hd0 : decide (kk < 0) = false := by simp; omega
    go_wp2
    refine wp_loop_rounds 1 ?_
    rw [rounds_succ]
    go_wp2
    go_ret
    exact ⟨rfl, Below.refl _ _⟩
  obtain rfl : kk = 0 := by omega
  have hq0 : ((ct t d []).toList == (preB ++ t ++ openB ++ d ++ closeB).toList) = true := by simp [ct, head, joinc]
  have hS3 : Strs w none 0 [] := ⟨rfl, fun h => by omega⟩
  clear hkk0 hkk1
  go_wp2
  refine wp_loop_rounds 1 ?_
  rw [rounds_succ]
  go_wp2_with fail
  refine (zcreate_any t d none 0 0 [] w hS3 ?_ ?_).mono ?_
  · omega
  · omega
  rintro e w3 ⟨rfl, hg3⟩
  have hb3 := below_grown hg3
  have hS3 : Strs w3 none 0 [] := ⟨rfl, fun h => by omega⟩
  clear hg3
  unfold preB openB closeB at hq0
  go_wp2_with fail
  refine (zcreate_any t d none 0 0 [] w3 hS3 ?_ ?_).mono ?_
  · omega
  · omega
  rintro e w6 ⟨rfl, hg6⟩
  have hS6 := below_strs (below_grown hg6) hS3
  have hb6 := hb3.trans ((below_grown hg6).mono hb3.size)
  clear hg6 hb3
  have hcs := ct_size t d []
  have hhs := head_size t
  have hfr := ct_front t d []
  have hla := ct_last t d []
  have hmid := ct_mid t d []
  obtain ⟨L, hL⟩ : ∃ L, L = ct t d [] := ⟨_, rfl⟩
  rw [← hL] at hcs hfr hla hmid ⊢
  have hL1 : t.size + 30 ≤ L.size := by omega
  have hL2 : L.size ≤ 8388608 := by omega
  have HM : Hid (L.extract (head t).size (L.size - 1) = joinc d []) := hmid
  have hh27 : 27 + t.size + 2 = (head t).size := by omega
  have hq2 : ((L.extract 0 (27 + t.size + 2)).toList == (preB ++ t ++ openB).toList) = true := by rw [hh27, hfr]; simp [head]
  have hlt1 : L.size - 1 < L.size := by omega
  have hq3 : (((L[L.size - 1]'hlt1).toNat : Int) != 41) = false := by rw [hla hlt1]; rfl
  have HM2 : Hid (L.extract (27 + t.size + 2) (L.size - 1) = joinc d []) := by show _ = _; rw [hh27]; exact HM.out
  unfold preB openB at hq2
  clear hL hcs hfr hmid hhs hla hh27 HM
  go_wp2_with fail
  refine (zcreate_any t d none 0 0 [] w6 hS6 ?_ ?_).mono ?_
  · omega
  · omega
  rintro e w7 ⟨rfl, hg7⟩
  have hS7 := below_strs (below_grown hg7) hS6
  have hb7 := hb6.trans ((below_grown hg7).mono hb6.size)
  clear hg7 hS6 hb6
  have hes : (L.extract (27 + t.size + 2) (L.size - 1)).size = d.size + weight [] := by rw [HM2.out, joinc_size]
  have hq4 : ((ct t d []).toList == (ct t (L.extract (27 + t.size + 2) (L.size - 1)) []).toList) = true := by rw [HM2.out]; simp [joinc]
  have hbig : t.size + (L.extract (27 + t.size + 2) (L.size - 1)).size + weight [] ≤ 8388608 := by omega
  have HBIG : Hid (t.size + (L.extract (27 + t.size + 2) (L.size - 1)).size + weight [] ≤ 8388608) := hbig
  clear hbig hes
  have hS7 : Strs w7 none 0 [] := ⟨rfl, fun h => by omega⟩
  go_wp2_with fail
  refine (zcreate_any t _ none 0 0 [] w7 hS7 ?_ ?_).mono ?_
  · omega
  · exact HBIG.out
  rintro e w8 ⟨rfl, hg8⟩
  have hb8 := hb7.trans ((below_grown hg8).mono hb7.size)
  clear hg8 hS7 hb7
  go_wp2
  go_ret
  exact ⟨rfl, hb8⟩

set_option maxRecDepth 100000 in
/-- The law, at every input. -/
theorem top_all (t d : ByteArray) (ao : Option Addr) (n c : Nat) (ss : List ByteArray) (kk : Int) (w : World) (hs : Strs w ao n ss) (hnil : ao = none → n = 0 ∧ c = 0) :
    Calls Try.prog 3 #[.string t, .string d, .slice ao n c, .int .i64 kk] w fun e w' => e = .returned (.bool true) ∧ Below w.heap.size w w' := by
  by_cases h1 : t.size ≤ 1048576
  case neg =>
    have hd1 : (1048576 : Int) < (t.size : Int) := by omega
    go_enter Try.func3, Try.ntmps3
    go_wp2_with fail
    refine (bytes_any t d ao n c ss kk w hs).mono ?_
    rintro e w' ⟨⟨b, rfl, hlong⟩, hw'⟩
    obtain rfl : w = w' := hw'.symm
    clear hlong
    cases b
    · go_wp2
      go_ret
      exact ⟨rfl, Below.refl _ _⟩
    · go_wp2
      go_ret
      exact ⟨rfl, Below.refl _ _⟩
  by_cases h2 : d.size ≤ 1048576
  case neg =>
    have hd1 : decide ((1048576 : Int) < (t.size : Int)) = false := by simp; omega
    have hd2 : (1048576 : Int) < (d.size : Int) := by omega
    go_enter Try.func3, Try.ntmps3
    go_wp2_with fail
    refine (bytes_any t d ao n c ss kk w hs).mono ?_
    rintro e w' ⟨⟨b, rfl, hlong⟩, hw'⟩
    obtain rfl : w = w' := hw'.symm
    clear hlong
    cases b
    · go_wp2
      go_ret
      exact ⟨rfl, Below.refl _ _⟩
    · go_wp2
      go_ret
      exact ⟨rfl, Below.refl _ _⟩
  by_cases h3 : n ≤ 65536
  case neg =>
    have hd1 : decide ((1048576 : Int) < (t.size : Int)) = false := by simp; omega
    have hd2 : decide ((1048576 : Int) < (d.size : Int)) = false := by simp; omega
    have hd3 : (65536 : Int) < (n : Int) := by omega
    go_enter Try.func3, Try.ntmps3
    go_wp2_with fail
    refine (bytes_any t d ao n c ss kk w hs).mono ?_
    rintro e w' ⟨⟨b, rfl, hlong⟩, hw'⟩
    obtain rfl : w = w' := hw'.symm
    clear hlong
    cases b
    · go_wp2
      go_ret
      exact ⟨rfl, Below.refl _ _⟩
    · go_wp2
      go_ret
      exact ⟨rfl, Below.refl _ _⟩
  cases ao with
  | none =>
    obtain ⟨rfl, rfl⟩ := hnil rfl
    exact top_none t d kk w h1 h2
  | some ad => exact top_some t d ad n c ss kk w hs h1 h2 h3
end Go.Proofs.Qxb6618427a
