/- []string: zzCloneStrings, zzBytes, the reading. -/
import Derived.Test.Qxb6605703aRows
import Derived.Test.Qxb6605703aBase
import Derived.Test.Qxb6605703aClone
import Derived.WalkKit
import Derived.WalkSpells
import Derived.WalkLawsBesides
import Derived.Deep.MidRow
import Derived.Lib.SliceRun
import Derived.LoopN
namespace Go.Proofs.Qxb6605703a
open Go.RowKit

theorem Try.info9 : (Try.prog.info? 9).map (fun i => (i.zero, i.size, i.bytes)) = some (some (.string ⟨#[]⟩), 1, 16) := by kernel_rfl

theorem nil22 (w : World) (a : Option Addr) (n c n' c' : Nat) : (binOp .eql 22 (.slice a n c) (.slice none n' c')).run Try.prog w = .ok (.bool a.isNone) w := Lib.run_eql_slice_nil w 22 9 a n c n' c' Try.underlying22

set_option maxHeartbeats 400000 in
theorem cloneS_nil (w : World) : Calls Try.prog 8 #[.slice none 0 0] w fun e w' => e = .returned (.slice none 0 0) ∧ w = w' := by
  have q := nil22
  go_enter Try.func8, Try.ntmps8
  go_wp2
  go_ret
  exact ⟨rfl, rfl⟩

theorem all_succ {P : Nat → Prop} {k : Nat} (h : ∀ i, i < k → P i) (hk : P k) : ∀ i, i < k + 1 → P i := fun i hi => by
  by_cases e : i = k
  · subst e; exact hk
  · exact h i (by omega)

/-- k of the len strings have been copied into the new block N. -/
structure SRel (w wr : World) (N len k : Nat) (ss : Nat → ByteArray) : Prop where
  grown : w.grownBy wr none
  size : N < wr.heap.size
  there : wr.there N 0 len
  cells : ∀ i, i < k → wr.cell? ⟨N, i, none⟩ = some (.string (ss i))

theorem SRel.step {w wr : World} {N len k : Nat} {ss : Nat → ByteArray} (h : SRel w wr N len k ss) (hN : w.heap.size ≤ N) (hk : k < len) :
    SRel w (wr.setCell ⟨N, k, none⟩ (.string (ss k))) N len (k + 1) ss := by
  refine ⟨set_below h.grown hN _ _, by simpa using h.size, there_set h.there _ _, ?_⟩
  intro i hi
  obtain ⟨v0, g0⟩ := cell_is h.there k hk
  by_cases e : i = k
  · subst e
    exact World.cell?_setCell_same _ _ _ g0
  · rw [cell_far _ _ _ _ _ (by omega)]
    exact h.cells i (by omega)

set_option maxRecDepth 100000 in
set_option maxHeartbeats 400000 in
theorem cloneS_some (b off len cap : Nat) (ss : Nat → ByteArray) (w : World) (hl : len ≤ 1048576) (hb : b < w.heap.size)
    (hc : ∀ i, i < len → w.cell? ⟨b, off + i, none⟩ = some (.string (ss i))) :
    Calls Try.prog 8 #[.slice (some ⟨b, off, none⟩) len cap] w fun e w' => e = .returned (.slice (some ⟨w.heap.size, 0, none⟩) len len) ∧ w.grownBy w' none ∧ w.heap.size < w'.heap.size ∧
      (∀ i, i < len → w'.cell? ⟨w.heap.size, i, none⟩ = some (.string (ss i))) := by
  obtain ⟨i0, hi, hz0, hz1, hz2⟩ := info_parts Try.info9
  have q := nil22
  have HC := hide hc
  clear hc
  go_enter Try.func8, Try.ntmps8
  go_wp2_with (at_make; refine wpList_make_full _ rfl _ _ 22 rfl w.heap.size 9 i0 (.string ⟨#[]⟩) 1 Try.underlying22 hi hz0 hz1 _ _ _ _ len rfl rfl rfl rfl (by rw [hz2]; omega) (by unfold maxLen; omega) (Nat.le_refl _) ?_; intro w1 hown hgrow)
  clear q hi hz0 hz1 hz2 i0
  have C0 : SRel w w1 w.heap.size len 0 ss := by
    refine ⟨hgrow, (hown.lt _ rfl).2, fun j hj => ?_, fun i hi => absurd hi (by omega)⟩
    rw [Nat.zero_add]
    exact ⟨by rw [hown.cellAt j (by omega), List.getElem?_eq_getElem (by rw [hown.1]; omega)]; rfl, hown.frozenAt j⟩
  clear hown hgrow
  go_loopw [4] (fun i wr => ∃ k : Nat, k ≤ len ∧ i = .int .i64 k ∧ SRel w wr w.heap.size len k ss) (fun i _ => len - (intOf i).toNat)
  case atStart => exact ⟨0, Nat.zero_le _, rfl, C0⟩
  case round =>
    clear C0
    obtain ⟨k, hk, rfl, C⟩ := hrel
    by_cases hlt : k < len
    · have hbl : wr.heap[b]? = w.heap[b]? := C.grown.block b hb (by simp)
      have r0 : wr.cell? ⟨b, off + k, none⟩ = some (.string (ss k)) := by rw [World.cell?_of_block (a := ⟨b, off + k, none⟩) hbl]; exact HC.out k hlt
      obtain ⟨v0, g0⟩ := cell_is C.there k hlt
      have z0 : wr.frozen? ⟨w.heap.size, k, none⟩ = false := by have := (C.there k hlt).2; rwa [Nat.zero_add] at this
      clear hbl
      have C' := C.step (Nat.le_refl _) hlt
      clear C
      go_wp2
      go_roundw
      case rel => exact ⟨k + 1, by omega, by go_num, C'⟩
      case measure => simp [intOf]; omega
    · go_wp2
      go_ret
      obtain rfl : k = len := by omega
      exact ⟨rfl, C.grown, C.size, C.cells⟩

set_option maxRecDepth 100000 in
set_option maxHeartbeats 400000 in
theorem cloneS_empty (x : Addr) (cap : Nat) (w : World) :
    Calls Try.prog 8 #[.slice (some x) 0 cap] w fun e w' => e = .returned (.slice (some ⟨w.heap.size, 0, none⟩) 0 0) ∧ w.grownBy w' none := by
  obtain ⟨i0, hi, hz0, hz1, hz2⟩ := info_parts Try.info9
  have q := nil22
  go_enter Try.func8, Try.ntmps8
  go_wp2_with (at_make; refine wpList_make_full _ rfl _ _ 22 rfl w.heap.size 9 i0 (.string ⟨#[]⟩) 1 Try.underlying22 hi hz0 hz1 _ _ _ _ 0 rfl rfl rfl rfl (by omega) (by unfold maxLen; omega) (Nat.le_refl _) ?_; intro w1 hown hgrow)
  clear q hi hz0 hz1 hz2 i0 hown
  refine wp_loop_rounds 1 ?_
  rw [rounds_succ]
  go_wp2
  go_ret
  exact ⟨rfl, hgrow⟩

theorem cloneS_zero (a : Option Addr) (cap : Nat) (w : World) (h : a = none → cap = 0) :
    Calls Try.prog 8 #[.slice a 0 cap] w fun e w' => ∃ a', e = .returned (.slice a' 0 0) ∧ w.grownBy w' none := by
  cases a with
  | none =>
    obtain rfl := h rfl
    exact (cloneS_nil w).mono fun _ _ ⟨he, hw⟩ => ⟨none, he, hw ▸ ⟨rfl, rfl, rfl, Nat.le_refl _, fun _ _ _ => rfl⟩⟩
  | some x => exact (cloneS_empty x cap w).mono fun _ _ ⟨he, hw⟩ => ⟨_, he, hw⟩

/-- The list and each of its strings are short. -/
def Short (len : Nat) (ss : Nat → ByteArray) : Prop := len ≤ 1048576 ∧ ∀ i, i < len → (ss i).size ≤ 1048576

/-- It answers some bool, and true only where ok; the world stands. -/
def Asked (ok : Prop) (w : World) (e : Ending) (w' : World) : Prop := ∃ bb, e = .returned (.bool bb) ∧ (bb = true → ok) ∧ w = w'

set_option maxRecDepth 100000 in
set_option maxHeartbeats 400000 in
/-- zzBytes_FnNameBlocksKeepReturnsEachName, at a list that is not empty. -/
theorem bytes7 (b off len cap : Nat) (ss : Nat → ByteArray) (w : World) (hl : len ≤ 9223372036854775807) (hm : ∀ i, (ss i).size ≤ 9223372036854775807)
    (hc : ∀ i, i < len → w.cell? ⟨b, off + i, none⟩ = some (.string (ss i))) :
    Calls Try.prog 7 #[.slice (some ⟨b, off, none⟩) len cap] w fun e w' => Asked (Short len ss) w e w' := by
  have HC := hide hc
  have HM := hide hm
  clear hc hm
  by_cases hL : len ≤ 1048576
  · go_enter Try.func7, Try.ntmps7
    go_wp2_with fail
    go_loop [3, 4] (fun n i => ∃ k t : Nat, k ≤ len ∧ i = .int .i64 k ∧ n = .int .i64 t ∧ t ≤ 1048576 ∧ Hid (∀ i, i < k → (ss i).size ≤ 1048576)) (fun _ i => len - (intOf i).toNat)
    case atStart => exact ⟨0, len, Nat.zero_le _, rfl, rfl, by omega, fun i hi => absurd hi (by omega)⟩
    case round =>
      obtain ⟨k, t, hk, rfl, rfl, ht, HK⟩ := hrel
      by_cases hlt : k < len
      · have r0 := HC.out k hlt
        have m0 := HM.out k
        obtain ⟨s, HS⟩ : ∃ s, Hid (ss k = s) := ⟨_, rfl⟩
        rw [HS.out] at r0 m0
        by_cases h1 : s.size ≤ 1048576
        · by_cases h2 : t + s.size ≤ 1048576
          · go_wp2
            go_round
            case rel => exact ⟨k + 1, t + s.size, by omega, by go_num, by go_num, h2, all_succ HK.out (by rw [HS.out]; exact h1)⟩
            case measure => simp [intOf]; omega
          · go_wp2
            go_ret
            exact ⟨false, rfl, fun h => (by cases h), rfl⟩
        · go_wp2
          go_ret
          exact ⟨false, rfl, fun h => (by cases h), rfl⟩
      · go_wp2
        go_ret
        exact ⟨true, rfl, fun _ => ⟨hL, fun i hi => HK.out i (by omega)⟩, rfl⟩
  · go_enter Try.func7, Try.ntmps7
    go_wp2
    go_ret
    exact ⟨false, rfl, fun h => (by cases h), rfl⟩

set_option maxHeartbeats 400000 in
theorem bytes7_zero (a : Option Addr) (cap : Nat) (w : World) :
    Calls Try.prog 7 #[.slice a 0 cap] w fun e w' => e = .returned (.bool true) ∧ w = w' := by
  go_enter Try.func7, Try.ntmps7
  go_wp2_with fail
  refine wp_loop_rounds 1 ?_
  rw [rounds_succ]
  go_wp2
  go_ret
  exact ⟨rfl, rfl⟩
set_option maxRecDepth 100000 in
set_option maxHeartbeats 400000 in
/-- zzBytes_FnNameBlocksFillOneBlockInOrder, at a list that is not empty. -/
theorem bytes14 (b off len cap : Nat) (ss : Nat → ByteArray) (w : World) (hl : len ≤ 9223372036854775807) (hm : ∀ i, (ss i).size ≤ 9223372036854775807)
    (hc : ∀ i, i < len → w.cell? ⟨b, off + i, none⟩ = some (.string (ss i))) :
    Calls Try.prog 14 #[.slice (some ⟨b, off, none⟩) len cap] w fun e w' => Asked (Short len ss) w e w' := by
  have HC := hide hc
  have HM := hide hm
  clear hc hm
  by_cases hL : len ≤ 1048576
  · go_enter Try.func14, Try.ntmps14
    go_wp2_with fail
    go_loop [3, 4] (fun n i => ∃ k t : Nat, k ≤ len ∧ i = .int .i64 k ∧ n = .int .i64 t ∧ t ≤ 1048576 ∧ Hid (∀ i, i < k → (ss i).size ≤ 1048576)) (fun _ i => len - (intOf i).toNat)
    case atStart => exact ⟨0, len, Nat.zero_le _, rfl, rfl, by omega, fun i hi => absurd hi (by omega)⟩
    case round =>
      obtain ⟨k, t, hk, rfl, rfl, ht, HK⟩ := hrel
      by_cases hlt : k < len
      · have r0 := HC.out k hlt
        have m0 := HM.out k
        obtain ⟨s, HS⟩ : ∃ s, Hid (ss k = s) := ⟨_, rfl⟩
        rw [HS.out] at r0 m0
        by_cases h1 : s.size ≤ 1048576
        · by_cases h2 : t + s.size ≤ 1048576
          · go_wp2
            go_round
            case rel => exact ⟨k + 1, t + s.size, by omega, by go_num, by go_num, h2, all_succ HK.out (by rw [HS.out]; exact h1)⟩
            case measure => simp [intOf]; omega
          · go_wp2
            go_ret
            exact ⟨false, rfl, fun h => (by cases h), rfl⟩
        · go_wp2
          go_ret
          exact ⟨false, rfl, fun h => (by cases h), rfl⟩
      · go_wp2
        go_ret
        exact ⟨true, rfl, fun _ => ⟨hL, fun i hi => HK.out i (by omega)⟩, rfl⟩
  · go_enter Try.func14, Try.ntmps14
    go_wp2
    go_ret
    exact ⟨false, rfl, fun h => (by cases h), rfl⟩

set_option maxHeartbeats 400000 in
theorem bytes14_zero (a : Option Addr) (cap : Nat) (w : World) :
    Calls Try.prog 14 #[.slice a 0 cap] w fun e w' => e = .returned (.bool true) ∧ w = w' := by
  go_enter Try.func14, Try.ntmps14
  go_wp2_with fail
  refine wp_loop_rounds 1 ?_
  rw [rounds_succ]
  go_wp2
  go_ret
  exact ⟨rfl, rfl⟩
end Go.Proofs.Qxb6605703a
