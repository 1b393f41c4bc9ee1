/-
  THE LAW THAT THE KIT LACKS: 'append(s, make([]T, n)...)' AT n = 1, s a row that the call itself owns. The translation lays it as ONE builtin append whose second argument is the integer n.
-/
import Derived.Deep.RegionLaw
import Derived.Laws.AppendOwn
namespace Go.Proofs.Qxb6618405a

section
variable {P : Program} (w : World)

theorem run_append_zero_own (base : Nat) (t ti ty e : TypeId) (k : IntKind) (i : TypeInfo) (z : Value) (bytes : Nat) (ht : P.underlying t = some (.slice e)) (hti : P.underlying ti = some (.int k))
    (hi : P.info? e = some i) (hz : i.zero = some z) (hsize : i.size = 1) (hby : i.bytes = bytes) (hzs : z.cells = #[z]) (hz1 : z.oneCell' = true) (hb0 : bytes ≤ 281474976710656)
    (v : Value) (n : Nat) (xs : List Value) (hown : w.ownsRow base e 1 v n xs)
    (h63 : n + 1 ≤ maxLen) (hbytes : (n + 1) * bytes ≤ 140737488355328) (hbase : base ≤ w.heap.size) :
    ∃ g cap w', (Builtin.append_ #[t, ti] ty #[v, .int .i64 1]).run P w = .ok (.slice (some ⟨g, 0, none⟩) (n + 1) cap) w' ∧ w'.ownsRow base e 1 (.slice (some ⟨g, 0, none⟩) (n + 1) cap) (n + 1) (xs ++ [z]) ∧ w.grownBy w' v.ownBlock ∧ (v.ownBlock = some g ∨ g = w.heap.size) := by
  subst hby
  have hsmall : n + 1 ≤ 9223372036854775807 := by simp only [maxLen] at h63; omega
  have hw1 : IntKind.i64.wrap 1 = 1 := by decide
  have hb0' : ¬ (281474976710656 < (i.bytes : Int)) := by omega
  have hlen : (xs ++ [z]).length = (n + 1) * 1 := by rw [List.length_append, hown.1]; simp
  have hzc : Builtin.zeroCells #[z] 1 = #[z] := by
    apply Array.ext'
    simp [Builtin.zeroCells, List.range_succ]
  have grown : ∀ (old : Nat), old < n + 1 → ∀ (row : Option Nat),
      (w.drew.alloc (.cells (xs.toArray ++ #[z] ++ Builtin.zeroCells z.cells (grownCap w (n + 1) old e - (n + 1))) e)).ownsRow base e 1
        (.slice (some ⟨w.heap.size, 0, none⟩) (n + 1) (grownCap w (n + 1) old e)) (n + 1) (xs ++ [z]) ∧
      w.grownBy (w.drew.alloc (.cells (xs.toArray ++ #[z] ++ Builtin.zeroCells z.cells (grownCap w (n + 1) old e - (n + 1))) e)) row := by
    intro old ho row
    have hge := grownCap_ge w (n + 1) old e
    have hcm : grownCap w (n + 1) old e ≤ maxLen := grownCap_le_maxLen w (n + 1) old e h63
    have hx1 := hown.1
    refine ⟨⟨hlen, .inr ⟨w.heap.size, _, _, rfl, hbase, heap_alloc_new w.drew _, hge, hcm, ?_, ?_⟩⟩, ⟨rfl, rfl, rfl, by simp, fun k hk _ => heap_alloc_old w.drew _ k hk⟩⟩
    · simp only [Array.size_append, List.size_toArray, size_zeroCells, hzs, hx1]
      simp
      omega
    · simp only [Array.toList_append, List.append_assoc]
      rw [← List.append_assoc, ← hlen]
      exact List.take_left
  rcases hown.2 with ⟨rfl, rfl⟩ | ⟨g, cap, cur, rfl, hbg, hg, hnc, hcm, hcs, htake⟩
  · have hx : xs = [] := List.eq_nil_of_length_eq_zero (by simpa using hown.1)
    subst hx
    have h48' : ¬ (281474976710656 < Builtin.nextslicecap 1 0 * i.bytes) := by rw [nextslicecap_zero (by omega)]; omega
    have hgr := grown 0 (by omega) (Value.ownBlock (.slice none 0 0))
    refine ⟨_, _, _, ?_, hgr.1, hgr.2, .inr rfl⟩
    simp [Builtin.append_, run_underlying ht, run_underlying hti, asInt, asIntOf, hw1, hb0', sizeOf, typeInfo, zeroValue, hi, hz, hsize, hzs, hzc, h48', Question.forced, run_firstCells_none, newRow, grownCap]
    intro hh
    exfalso
    omega
  · by_cases hroom : n + 1 ≤ cap
    · have hfit : n + 1 ≤ cur.size := by rw [hcs]; omega
      have hst := run_storeCells_at P g n e [z] 0 cur w hg (by simpa using hfit) (by simpa using hz1)
      simp only [Nat.add_zero, List.length_cons, List.length_nil, Nat.zero_add] at hst
      refine ⟨g, cap, w.setRow g (cur.toList.take n ++ [z] ++ cur.toList.drop (n + 1)).toArray, ?_, ⟨hlen, .inr ⟨g, cap, _, rfl, hbg, setRow_heap w g cur _ e _ hg, hroom, hcm, ?_, ?_⟩⟩, ⟨rfl, rfl, rfl, by simp, fun k _ hk => setRow_other w g k _ (fun e => hk (by simp [Value.ownBlock, e]))⟩, .inl rfl⟩
      · simp [Builtin.append_, run_underlying ht, run_underlying hti, asInt, asIntOf, hw1, hb0', sizeOf, typeInfo, zeroValue, hi, hz, hsize, hzs, hzc, hroom, Addr.add_lit, hst]
      · simp only [List.size_toArray, List.length_append, List.length_take, List.length_drop, Array.length_toList, List.length_cons, List.length_nil]
        omega
      · rw [← hlen]
        have ht' : cur.toList.take n = xs := by simpa using htake
        rw [ht']
        exact List.take_left
    · have holds : ∀ j u, xs[j]? = some u → w.cell? ((⟨g, 0, none⟩ : Addr).add j) = some u := hown.cells (g := g) rfl
      have hn : ¬ (n + 1 ≤ cap) := hroom
      have h63' : ¬ (9223372036854775807 < ((n : Int) + 1)) := by omega
      have hfit := growslice_fits (need := n + 1) (old := cap) (bytes := i.bytes) (by omega) hbytes
      have h48' : ¬ (281474976710656 < Builtin.nextslicecap (n + 1) cap * i.bytes) := by omega
      have hfo := run_firstCells_some (P := P) w.drew 1 n ⟨g, 0, none⟩ n cap xs hown.1 (by simpa using holds)
      have hgr := grown cap (by omega) (Value.ownBlock (.slice (some ⟨g, 0, none⟩) n cap))
      refine ⟨_, _, _, ?_, hgr.1, hgr.2, .inr rfl⟩
      simp [Builtin.append_, run_underlying ht, run_underlying hti, asInt, asIntOf, hw1, hb0', sizeOf, typeInfo, zeroValue, hi, hz, hsize, hzs, hzc, hn, h48', Question.forced, hfo, newRow, grownCap]
      intro hh
      exfalso
      omega

end

/-- The same as one step of a region that draws its order. -/
theorem step_append_zero_own {P : Program} {ops : Array Oper} {o : Oper} {a : Act} {w : World} {K : Act → World → Prop} {Q : Exit → Act → World → Prop} {E : Prop}
    (hg : o.guard = none) (s x : Operand) (t ti : TypeId) (hop : o.op = Op.call { callee := Callee.builtin Builtin.append, args := #[s, x], argTypes := #[t, ti] })
    (base : Nat) (e : TypeId) (k : IntKind) (i : TypeInfo) (z : Value) (bytes : Nat) (ht : P.underlying t = some (.slice e)) (hti : P.underlying ti = some (.int k))
    (hi : P.info? e = some i) (hz : i.zero = some z) (hsize : i.size = 1) (hby : i.bytes = bytes) (hzs : z.cells = #[z]) (hz1 : z.oneCell' = true) (hb0 : bytes ≤ 281474976710656)
    (v : Value) (n : Nat) (xs : List Value) (hs : a.eval s = v) (hx : a.eval x = .int .i64 1) (hown : w.ownsRow base e 1 v n xs)
    (h63 : n + 1 ≤ maxLen) (hbytes : (n + 1) * bytes ≤ 140737488355328) (hbase : base ≤ w.heap.size)
    (hK : ∀ g cap w', w'.ownsRow base e 1 (.slice (some ⟨g, 0, none⟩) (n + 1) cap) (n + 1) (xs ++ [z]) → w.grownBy w' v.ownBlock → (v.ownBlock = some g ∨ g = w.heap.size) → K (a.put o.dst (.slice (some ⟨g, 0, none⟩) (n + 1) cap)) w') :
    if Region.wanted o (yielded ops a.tmps) = true then Oper.wp P o a w K Q else E := by
  have hw : Region.wanted o (yielded ops a.tmps) = true := by simp [Region.wanted, hg]
  rw [if_pos hw]
  obtain ⟨g, cap, w', hrun, r1, r2, r3⟩ := run_append_zero_own (P := P) w base t ti o.type e k i z bytes ht hti hi hz hsize hby hzs hz1 hb0 v n xs hown h63 hbytes hbase
  unfold Oper.wp
  simp [execOp, hop, resolve, invoke, builtin, hs, hx, hrun, Result.andThen]
  exact hK g cap w' r1 r2 r3

end Go.Proofs.Qxb6618405a
