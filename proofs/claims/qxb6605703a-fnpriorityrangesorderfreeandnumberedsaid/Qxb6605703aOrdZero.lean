/- FnPriorityRangesOrderFreeAndNumbered at the empty list. -/
import Derived.Test.Qxb6605703aRows
import Derived.Test.Qxb6605703aPrRead
import Derived.Test.Qxb6605703aClone
import Derived.WalkKit
import Derived.WalkSpells
import Derived.WalkLawsBesides
import Derived.LoopN
namespace Go.Proofs.Qxb6605703a
open Go.RowKit

set_option maxRecDepth 100000 in
set_option maxHeartbeats 1000000 in
theorem ord_zero (a : Option Addr) (cap : Nat) (w : World) (h : a = none → cap = 0) :
    Calls Try.prog 6 #[.slice a 0 cap] w fun e w' => e = .returned (.bool true) ∧ Below w.heap.size w w' := by
  have HH := hide h
  clear h
  go_enter Try.func6, Try.ntmps6
  go_wp2_with fail
  refine (bytes21 _ 0 cap _ (by omega)).mono ?_
  rintro e w1 ⟨rfl, rfl⟩
  rw [decide_eq_true (by omega)]
  go_wp2_with fail
  refine (clone_zero a cap _ HH.out).mono ?_
  rintro e w1 ⟨a', rfl, G1⟩
  have B1 : Below w.heap.size w w1 := (Below.refl _ _).grown G1 (Nat.le_refl _) (fun k hk => by simp at hk)
  clear G1 HH
  go_wp2_with fail
  refine (zznewA _).mono ?_
  rintro e w2 ⟨rfl, A2, G2⟩
  have B2 : Below w.heap.size w w2 := B1.grown G2 B1.size (fun k hk => by simp at hk)
  clear B1 G2
  go_wp2_with fail
  generalize w1.heap.size = F at *
  refine wp_loop_rounds 1 ?_
  rw [rounds_succ]
  go_wp2_with fail
  refine (zznewA _).mono ?_
  rintro e w3 ⟨rfl, A3, G3⟩
  have B3 : Below w.heap.size w w3 := B2.grown G3 B2.size (fun k hk => by simp at hk)
  have C3 : HasAll w3 F (fun _ => WR.zero) := A2.grown G3 (by simp)
  clear B2 G3 A2
  go_wp2_with fail
  generalize w2.heap.size = R at *
  refine wp_loop_rounds 1 ?_
  rw [rounds_succ]
  go_wp2_with fail
  go_loopw [8] (fun i wr => ∃ c : Nat, c ≤ 3 ∧ i = .int .i64 c ∧ Below w.heap.size w wr ∧ HasAll wr F (fun _ => WR.zero) ∧ HasAll wr R (fun _ => WR.zero)) (fun i _ => 3 - (intOf i).toNat)
  case atStart => exact ⟨0, by omega, rfl, B3, C3, A3⟩
  case round =>
    clear B3 C3 A3
    obtain ⟨c, hc3, rfl, B4, C4, A4⟩ := hrel
    by_cases hc : c < 3
    · have q1 : HasQ wr F (c * 5) ⟨0, 0, 0, 0, false⟩ := C4 c hc
      have q2 : HasQ wr R (c * 5) ⟨0, 0, 0, 0, false⟩ := A4 c hc
      go_wp2_with fail
      refine (zzword F c hc _ wr q1).mono ?_
      rintro e w5 ⟨rfl, n1, rfl⟩
      go_wp2_with fail
      refine (zzword R c hc _ _ (HasWR.drewN n1 q2)).mono ?_
      rintro e w6 ⟨rfl, n2, rfl⟩
      clear q1 q2
      go_wp2_with fail
      go_roundw
      case rel => exact ⟨c + 1, by omega, by go_num, ⟨B4.os, B4.tape, B4.output, B4.size, B4.block⟩, C4.drewN _, A4.drewN _⟩
      case measure => simp [intOf]; omega
    · go_wp2_with fail
      go_ret
      exact ⟨rfl, B4⟩
end Go.Proofs.Qxb6605703a
