/- b1CloneInts. -/
import Derived.Test.Qxb6605773aRows
import Derived.Test.Qxb6605773aBase
import Derived.Test.Qxb6605773aClock
import Derived.WalkKit
import Derived.WalkSpells
import Derived.WalkLawsBesides
import Derived.Lib.SliceRun
import Derived.LoopN
namespace Go.Proofs.Qxb6605773a
open Go.RowKit

theorem nil22 (w : World) (a : Option Addr) (n c n' c' : Nat) : (binOp .eql 22 (.slice a n c) (.slice none n' c')).run Try.prog w = .ok (.bool a.isNone) w := Lib.run_eql_slice_nil w 22 2 a n c n' c' Try.underlying22

set_option maxHeartbeats 400000 in
theorem cloneI_nil (w : World) : Calls Try.prog 10 #[.slice none 0 0] w fun e w' => e = .returned (.slice none 0 0) ∧ w = w' := by
  have q := nil22
  go_enter Try.func10, Try.ntmps10
  go_wp2
  go_ret
  exact ⟨rfl, rfl⟩

/-- What b1CloneInts leaves: a copy of zs in memory of its own; nil stays nil. -/
def Cloned (w : World) (isNil : Bool) (zs : List Int) (e : Ending) (w' : World) : Prop :=
  ∃ v', e = .returned v' ∧ w'.ownsRow w.heap.size 2 1 v' zs.length (ints zs) ∧ w.grownBy w' none ∧ (∃ a n c, v' = .slice a n c ∧ a.isNone = isNil)

theorem ints_done {zs : List Int} {xs : List Value} (hl : xs.length = zs.length * 1) (h : ∀ i, i < zs.length → xs[i]? = some (.int .i64 (zs.getD i 0))) : xs = ints zs := by
  apply List.ext_getElem?
  intro i
  by_cases hi : i < zs.length
  · rw [h i hi, ints_get zs i hi]
  · rw [List.getElem?_eq_none (by omega), List.getElem?_eq_none (by rw [ints_length]; omega)]

set_option maxRecDepth 100000 in
set_option maxHeartbeats 400000 in
theorem cloneI_some (b off cap : Nat) (zs : List Int) (w : World) (hl : zs.length ≤ 1048576) (hb : b < w.heap.size)
    (hc : ∀ i, i < zs.length → w.cell? ⟨b, off + i, none⟩ = some (.int .i64 (zs.getD i 0))) :
    Calls Try.prog 10 #[.slice (some ⟨b, off, none⟩) zs.length cap] w fun e w' => Cloned w false zs e w' := by
  obtain ⟨i0, hi, hz0, hz1, hz2⟩ := info_parts Try.info2
  have q := nil22
  have HC := hide hc
  clear hc
  go_enter Try.func10, Try.ntmps10
  go_wp2_with (at_make; refine wpList_make_full _ rfl _ _ 22 rfl w.heap.size 2 i0 (.int .i64 0) 1 Try.underlying22 hi hz0 hz1 _ _ _ _ zs.length rfl rfl rfl rfl (by rw [hz2]; omega) (by unfold maxLen; omega) (Nat.le_refl _) ?_; intro w1 hown hgrow)
  clear q hi hz0 hz1 hz2 i0
  go_loopw [4] (fun i wr => ∃ (k : Nat) (xs : List Value), k ≤ zs.length ∧ i = .int .i64 k ∧ wr.ownsRow w.heap.size 2 1 (.slice (some ⟨w.heap.size, 0, none⟩) zs.length zs.length) zs.length xs ∧ Hid (∀ i, i < k → xs[i]? = some (.int .i64 (zs.getD i 0))) ∧ w.grownBy wr none) (fun i _ => zs.length - (intOf i).toNat)
  case atStart => exact ⟨0, _, Nat.zero_le _, rfl, hown, fun i hi => absurd hi (by omega), hgrow⟩
  case round =>
    clear hown hgrow
    obtain ⟨k, xs, hk, rfl, O1, HX, G1⟩ := hrel
    by_cases hlt : k < zs.length
    · have r0 : wr.cell? ⟨b, off + k, none⟩ = some (.int .i64 (zs.getD k 0)) := by rw [World.cell?_of_block (a := ⟨b, off + k, none⟩) (G1.block b hb (by simp))]; exact HC.out k hlt
      have hxl : xs.length = zs.length * 1 := O1.1
      have g0 : wr.cell? ⟨w.heap.size, k, none⟩ = some (xs[k]'(by omega)) := by rw [O1.cellAt k (by omega), List.getElem?_eq_getElem]
      have z0 : wr.frozen? ⟨w.heap.size, k, none⟩ = false := O1.frozenAt k
      have O2 := (O1.stored k (.int .i64 (zs.getD k 0))).1
      have HX2 : Hid (∀ i, i < k + 1 → (xs.set k (.int .i64 (zs.getD k 0)))[i]? = some (.int .i64 (zs.getD i 0))) := fun i hi => by
        by_cases e : i = k
        · subst e; rw [List.getElem?_set_self (by omega)]
        · rw [List.getElem?_set_ne (fun e' => e e'.symm)]; exact HX.out i (by omega)
      have G2 : w.grownBy (wr.setCell ⟨w.heap.size, k, none⟩ (.int .i64 (zs.getD k 0))) none :=
        ⟨G1.os, G1.tape, G1.output, by simpa using G1.size, fun i hi hr => by rw [Below.heap_setCell _ _ _ _ (by show i ≠ w.heap.size; omega)]; exact G1.block i hi hr⟩
      generalize xs.set k (.int .i64 (zs.getD k 0)) = xs2 at *
      generalize xs[k] = x0 at *
      generalize zs.getD k 0 = z at *
      clear O1 HX G1
      go_wp2_with fail
      go_roundw
      case rel => exact ⟨k + 1, xs2, by omega, by go_num, O2, HX2, G2⟩
      case measure => simp [intOf]; omega
    · go_wp2_with fail
      go_ret
      obtain rfl : k = zs.length := by omega
      have e := ints_done O1.1 HX.out
      subst e
      exact ⟨_, rfl, O1, G1, _, _, _, rfl, rfl⟩

set_option maxRecDepth 100000 in
set_option maxHeartbeats 400000 in
theorem cloneI_empty (x : Addr) (cap : Nat) (w : World) :
    Calls Try.prog 10 #[.slice (some x) 0 cap] w fun e w' => Cloned w false [] e w' := by
  obtain ⟨i0, hi, hz0, hz1, hz2⟩ := info_parts Try.info2
  have q := nil22
  go_enter Try.func10, Try.ntmps10
  go_wp2_with (at_make; refine wpList_make_full _ rfl _ _ 22 rfl w.heap.size 2 i0 (.int .i64 0) 1 Try.underlying22 hi hz0 hz1 _ _ _ _ 0 rfl rfl rfl rfl (by omega) (by unfold maxLen; omega) (Nat.le_refl _) ?_; intro w1 hown hgrow)
  clear q hi hz0 hz1 hz2 i0
  refine wp_loop_rounds 1 ?_
  rw [rounds_succ]
  go_wp2
  go_ret
  have e : (madeCells (Value.int .i64 0).cells (0 * 1)).toList = ints [] := List.eq_nil_of_length_eq_zero (by have := hown.1; simpa using this)
  rw [e] at hown
  exact ⟨_, rfl, hown, hgrow, _, _, _, rfl, rfl⟩

/-- A []int64: nil; or the numbers zs (of an empty one nothing is known). -/
def IsInts (w : World) (a : Option Addr) (len cap : Nat) (zs : List Int) : Prop :=
  zs.length = len ∧ ((a = none ∧ len = 0 ∧ cap = 0) ∨
  ∃ x, a = some x ∧ len ≤ 9223372036854775807 ∧ (0 < len → x.spot = none ∧ x.block < w.heap.size ∧ ∀ i, i < len → w.cell? ⟨x.block, x.off + i, none⟩ = some (.int .i64 (zs.getD i 0))))

/-- b1CloneInts, whatever comes in. -/
theorem cloneI (a : Option Addr) (len cap : Nat) (zs : List Int) (w : World) (h : IsInts w a len cap zs) (hl : len ≤ 1048576) :
    Calls Try.prog 10 #[.slice a len cap] w fun e w' => Cloned w a.isNone zs e w' := by
  obtain ⟨rfl, h⟩ := h
  rcases h with ⟨rfl, h0, rfl⟩ | ⟨x, rfl, _, hx⟩
  · obtain rfl : zs = [] := List.eq_nil_of_length_eq_zero h0
    exact (cloneI_nil w).mono fun _ _ ⟨he, hw⟩ => hw ▸ ⟨_, he, World.ownsRow_nil _ _ _ _, ⟨rfl, rfl, rfl, Nat.le_refl _, fun _ _ _ => rfl⟩, _, _, _, rfl, rfl⟩
  · by_cases h0 : zs = []
    · subst h0
      exact cloneI_empty x cap w
    · obtain ⟨b, off, spot⟩ := x
      obtain ⟨hs, hb, hc⟩ := hx (by have : zs.length ≠ 0 := by simpa using h0
                                    omega)
      simp only at hs hb hc
      subst hs
      exact cloneI_some b off cap zs w hl hb hc
end Go.Proofs.Qxb6605773a
