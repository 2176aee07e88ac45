import Derived.Test.Qxb6605703aRows
import Derived.Test.Qxb6605703aBase
import Derived.WalkKit
import Derived.WalkSpells
import Derived.WalkLawsBesides
import Derived.Deep.MidRow
import Derived.Lib.SliceRun
import Derived.LoopN
namespace Go.Proofs.Qxb6605703a
open Go.RowKit

theorem Try.info38 : (Try.prog.info? 38).map (fun i => (i.zero, i.size, i.bytes)) = some (some (.agg #[.int .u64 0, .int .u64 0, .int .u64 0]), 3, 24) := by kernel_rfl

theorem nil31 (w : World) (a : Option Addr) (n c n' c' : Nat) : (binOp .eql 31 (.slice a n c) (.slice none n' c')).run Try.prog w = .ok (.bool a.isNone) w := Lib.run_eql_slice_nil w 31 38 a n c n' c' Try.underlying31

set_option maxHeartbeats 400000 in
theorem clone_nil (w : World) : Calls Try.prog 16 #[.slice none 0 0] w fun e w' => e = .returned (.slice none 0 0) ∧ w = w' := by
  have q := nil31
  go_enter Try.func16, Try.ntmps16
  go_wp2
  go_ret
  exact ⟨rfl, rfl⟩

/-- k of the len triples have been copied into the new block N. -/
structure CRel (w wr : World) (N len k : Nat) (z : Nat → Nat → Nat) : Prop where
  grown : w.grownBy wr none
  size : N < wr.heap.size
  there : wr.there N 0 (len * 3)
  cells : ∀ i j, i < k → j < 3 → wr.cell? ⟨N, i * 3 + j, none⟩ = some (.int .u64 (z i j))

theorem set_below {w wr : World} {N : Nat} (h : w.grownBy wr none) (hN : w.heap.size ≤ N) (j : Nat) (v : Value) : w.grownBy (wr.setCell ⟨N, j, none⟩ v) none :=
  ⟨h.os, h.tape, h.output, by simpa using h.size, fun k hk hr => by rw [Below.heap_setCell _ _ _ _ (by show k ≠ N; omega)]; exact h.block k hk hr⟩

theorem there_set {wr : World} {N n : Nat} (h : wr.there N 0 n) (j : Nat) (v : Value) : (wr.setCell ⟨N, j, none⟩ v).there N 0 n := fun i hi => by
  obtain ⟨h1, h2⟩ := h i hi
  refine ⟨?_, by simpa using h2⟩
  obtain ⟨u, hu⟩ := Option.isSome_iff_exists.1 h1
  by_cases e : j = 0 + i
  · subst e; rw [World.cell?_setCell_same _ _ _ hu]; rfl
  · rw [cell_far _ _ _ _ _ e, hu]; rfl

theorem cell_is {wr : World} {N n : Nat} (h : wr.there N 0 n) (j : Nat) (hj : j < n) : ∃ v, wr.cell? ⟨N, j, none⟩ = some v := by
  have := (h j hj).1
  rw [Nat.zero_add] at this
  exact Option.isSome_iff_exists.1 this

theorem CRel.step {w wr : World} {N len k : Nat} {z : Nat → Nat → Nat} (h : CRel w wr N len k z) (hN : w.heap.size ≤ N) (hk : k < len) :
    CRel w (((wr.setCell ⟨N, k * 3, none⟩ (.int .u64 (z k 0))).setCell ⟨N, k * 3 + 1, none⟩ (.int .u64 (z k 1))).setCell ⟨N, k * 3 + 2, none⟩ (.int .u64 (z k 2))) N len (k + 1) z := by
  refine ⟨set_below (set_below (set_below h.grown hN _ _) hN _ _) hN _ _, by simpa using h.size, there_set (there_set (there_set h.there _ _) _ _) _ _, ?_⟩
  intro i j hi hj
  obtain ⟨v0, g0⟩ := cell_is h.there (k * 3) (by omega)
  obtain ⟨v1, g1⟩ := cell_is (there_set h.there (k * 3) (.int .u64 (z k 0))) (k * 3 + 1) (by omega)
  obtain ⟨v2, g2⟩ := cell_is (there_set (there_set h.there (k * 3) (.int .u64 (z k 0))) (k * 3 + 1) (.int .u64 (z k 1))) (k * 3 + 2) (by omega)
  by_cases e : i = k
  · subst e
    match j, hj with
    | 0, _ => rw [cell_far _ _ _ _ _ (by omega), cell_far _ _ _ _ _ (by omega)]; exact World.cell?_setCell_same _ _ _ g0
    | 1, _ => rw [cell_far _ _ _ _ _ (by omega)]; exact World.cell?_setCell_same _ _ _ g1
    | 2, _ => exact World.cell?_setCell_same _ _ _ g2
  · rw [cell_far _ _ _ _ _ (by omega), cell_far _ _ _ _ _ (by omega), cell_far _ _ _ _ _ (by omega)]
    exact h.cells i j (by omega) hj

set_option maxRecDepth 100000 in
set_option maxHeartbeats 400000 in
theorem clone_some (b off len cap : Nat) (z : Nat → Nat → Nat) (w : World) (hl : len ≤ 32768) (hb : b < w.heap.size)
    (hc : ∀ i j, i < len → j < 3 → w.cell? ⟨b, off + i * 3 + j, none⟩ = some (.int .u64 (z i j))) :
    Calls Try.prog 16 #[.slice (some ⟨b, off, none⟩) len cap] w fun e w' => e = .returned (.slice (some ⟨w.heap.size, 0, none⟩) len len) ∧ w.grownBy w' none ∧ w.heap.size < w'.heap.size ∧
      (∀ i j, i < len → j < 3 → w'.cell? ⟨w.heap.size, i * 3 + j, none⟩ = some (.int .u64 (z i j))) := by
  obtain ⟨i0, hi, hz0, hz1, hz2⟩ := info_parts Try.info38
  have q := nil31
  have HC := hide hc
  clear hc
  go_enter Try.func16, Try.ntmps16
  go_wp2_with (at_make; refine wpList_make_full _ rfl _ _ 31 rfl w.heap.size 38 i0 (.agg #[.int .u64 0, .int .u64 0, .int .u64 0]) 3 Try.underlying31 hi hz0 hz1 _ _ _ _ len rfl rfl rfl rfl (by rw [hz2]; omega) (by unfold maxLen; omega) (Nat.le_refl _) ?_; intro w1 hown hgrow)
  clear q hi hz0 hz1 hz2 i0
  have C0 : CRel w w1 w.heap.size len 0 z := by
    refine ⟨hgrow, (hown.lt _ rfl).2, fun j hj => ?_, fun i j hi => absurd hi (by omega)⟩
    rw [Nat.zero_add]
    exact ⟨by rw [hown.cellAt j hj]; simp [hown.1, hj], hown.frozenAt j⟩
  clear hown hgrow
  go_loopw [4] (fun i wr => ∃ k : Nat, k ≤ len ∧ i = .int .i64 k ∧ CRel w wr w.heap.size len k z) (fun i _ => len - (intOf i).toNat)
  case atStart => exact ⟨0, Nat.zero_le _, rfl, C0⟩
  case round =>
    clear C0
    obtain ⟨k, hk, rfl, C⟩ := hrel
    by_cases hlt : k < len
    · have hbl : wr.heap[b]? = w.heap[b]? := C.grown.block b hb (by simp)
      have old : ∀ j, wr.cell? ⟨b, j, none⟩ = w.cell? ⟨b, j, none⟩ := fun j => World.cell?_of_block (a := ⟨b, j, none⟩) hbl
      have r0 : wr.cell? ⟨b, off + k * 3, none⟩ = some (.int .u64 (z k 0)) := by rw [old]; exact HC.out k 0 hlt (by omega)
      have r1 : wr.cell? ⟨b, off + k * 3 + 1, none⟩ = some (.int .u64 (z k 1)) := by rw [old]; exact HC.out k 1 hlt (by omega)
      have r2 : wr.cell? ⟨b, off + k * 3 + 2, none⟩ = some (.int .u64 (z k 2)) := by rw [old]; exact HC.out k 2 hlt (by omega)
      obtain ⟨v0, g0⟩ := cell_is C.there (k * 3) (by omega)
      obtain ⟨v1, g1⟩ := cell_is C.there (k * 3 + 1) (by omega)
      obtain ⟨v2, g2⟩ := cell_is C.there (k * 3 + 2) (by omega)
      have z0 : wr.frozen? ⟨w.heap.size, k * 3, none⟩ = false := by have := (C.there (k * 3) (by omega)).2; rwa [Nat.zero_add] at this
      have z1 : wr.frozen? ⟨w.heap.size, k * 3 + 1, none⟩ = false := by have := (C.there (k * 3 + 1) (by omega)).2; rwa [Nat.zero_add] at this
      have z2 : wr.frozen? ⟨w.heap.size, k * 3 + 2, none⟩ = false := by have := (C.there (k * 3 + 2) (by omega)).2; rwa [Nat.zero_add] at this
      clear old hbl
      have C' := C.step (Nat.le_refl _) hlt
      clear C
      go_wp2
      exact ⟨⟨k + 1, by omega, by go_num, C'⟩, by simp [intOf]; omega⟩
    · go_wp2
      go_ret
      obtain rfl : k = len := by omega
      exact ⟨rfl, C.grown, C.size, C.cells⟩

set_option maxRecDepth 100000 in
set_option maxHeartbeats 400000 in
/-- An empty slice that is not nil: of its address nothing is known. -/
theorem clone_empty (x : Addr) (cap : Nat) (w : World) :
    Calls Try.prog 16 #[.slice (some x) 0 cap] w fun e w' => e = .returned (.slice (some ⟨w.heap.size, 0, none⟩) 0 0) ∧ w.grownBy w' none := by
  obtain ⟨i0, hi, hz0, hz1, hz2⟩ := info_parts Try.info38
  have q := nil31
  go_enter Try.func16, Try.ntmps16
  go_wp2_with (at_make; refine wpList_make_full _ rfl _ _ 31 rfl w.heap.size 38 i0 (.agg #[.int .u64 0, .int .u64 0, .int .u64 0]) 3 Try.underlying31 hi hz0 hz1 _ _ _ _ 0 rfl rfl rfl rfl (by omega) (by unfold maxLen; omega) (Nat.le_refl _) ?_; intro w1 hown hgrow)
  clear q hi hz0 hz1 hz2 i0 hown
  refine wp_loop_rounds 1 ?_
  rw [rounds_succ]
  go_wp2
  go_ret
  exact ⟨rfl, hgrow⟩

/-- Nothing to copy: nil stays nil, empty stays empty. -/
theorem clone_zero (a : Option Addr) (cap : Nat) (w : World) (h : a = none → cap = 0) :
    Calls Try.prog 16 #[.slice a 0 cap] w fun e w' => ∃ a', e = .returned (.slice a' 0 0) ∧ w.grownBy w' none := by
  cases a with
  | none =>
    obtain rfl := h rfl
    exact (clone_nil w).mono fun _ _ ⟨he, hw⟩ => ⟨none, he, hw ▸ ⟨rfl, rfl, rfl, Nat.le_refl _, fun _ _ _ => rfl⟩⟩
  | some x => exact (clone_empty x cap w).mono fun _ _ ⟨he, hw⟩ => ⟨_, he, hw⟩

set_option maxHeartbeats 400000 in
/-- zzBytes_FnPriorityRangesOrderFreeAndNumbered -/
theorem bytes21 (a : Option Addr) (len cap : Nat) (w : World) (hl : len ≤ 9223372036854775807) :
    Calls Try.prog 21 #[.slice a len cap] w fun e w' => e = .returned (.bool (decide (len ≤ 1048576))) ∧ w = w' := by
  by_cases h : len ≤ 1048576
  · go_enter Try.func21, Try.ntmps21
    go_wp2
    go_ret
    exact ⟨by rw [decide_eq_true h]; rfl, rfl⟩
  · go_enter Try.func21, Try.ntmps21
    go_wp2
    go_ret
    exact ⟨by rw [decide_eq_false h]; rfl, rfl⟩

set_option maxHeartbeats 400000 in
/-- zzBytes_FnPriorityRangesMatchModel -/
theorem bytes15 (a : Option Addr) (len cap : Nat) (w : World) (hl : len ≤ 9223372036854775807) :
    Calls Try.prog 15 #[.slice a len cap] w fun e w' => e = .returned (.bool (decide (len ≤ 1048576))) ∧ w = w' := by
  by_cases h : len ≤ 1048576
  · go_enter Try.func15, Try.ntmps15
    go_wp2
    go_ret
    exact ⟨by rw [decide_eq_true h]; rfl, rfl⟩
  · go_enter Try.func15, Try.ntmps15
    go_wp2
    go_ret
    exact ⟨by rw [decide_eq_false h]; rfl, rfl⟩
end Go.Proofs.Qxb6605703a
