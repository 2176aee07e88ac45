/- FnPriorityRangesMatchModel, walked. -/
import Derived.Test.Qxb6605703aRows
import Derived.Test.Qxb6605703aPrRead
import Derived.Test.Qxb6605703aClone
import Derived.Test.Qxb6605703aGcd
import Derived.WalkKit
import Derived.WalkSpells
import Derived.WalkLawsBesides
import Derived.LoopN
namespace Go.Proofs.Qxb6605703a
open Go.RowKit

set_option maxRecDepth 100000 in
set_option maxHeartbeats 400000 in
theorem match_long (a : Option Addr) (len cap : Nat) (w : World) (hl : len ≤ 9223372036854775807) (h : 32768 < len) :
    Calls Try.prog 5 #[.slice a len cap] w fun e w' => e = .returned (.bool true) ∧ w' = w := by
  by_cases h2 : len ≤ 1048576
  · go_enter Try.func5, Try.ntmps5
    go_wp2_with fail
    refine (bytes15 a len cap _ hl).mono ?_
    rintro e w1 ⟨rfl, rfl⟩
    rw [decide_eq_true h2]
    go_wp2_with fail
    go_ret
    exact ⟨rfl, rfl⟩
  · go_enter Try.func5, Try.ntmps5
    go_wp2_with fail
    refine (bytes15 a len cap _ hl).mono ?_
    rintro e w1 ⟨rfl, rfl⟩
    rw [decide_eq_false h2]
    go_wp2_with fail
    go_ret
    exact ⟨rfl, rfl⟩

set_option maxRecDepth 100000 in
set_option maxHeartbeats 1000000 in
theorem match_zero (a : Option Addr) (cap : Nat) (w : World) (h : a = none → cap = 0) :
    Calls Try.prog 5 #[.slice a 0 cap] w fun e w' => e = .returned (.bool true) ∧ Below w.heap.size w w' := by
  have HH := hide h
  clear h
  go_enter Try.func5, Try.ntmps5
  go_wp2_with fail
  refine (bytes15 _ 0 cap _ (by omega)).mono ?_
  rintro e w1 ⟨rfl, rfl⟩
  rw [decide_eq_true (by omega)]
  go_wp2_with fail
  refine (clone_zero a cap _ HH.out).mono ?_
  rintro e w1 ⟨a', rfl, G1⟩
  have B1 : Below w.heap.size w w1 := (Below.refl _ _).grown G1 (Nat.le_refl _) (fun k hk => by simp at hk)
  clear G1 HH
  go_wp2_with fail
  refine (zznewA _).mono ?_
  rintro e w2 ⟨rfl, A2, G2⟩
  have B2 : Below w.heap.size w w2 := B1.grown G2 B1.size (fun k hk => by simp at hk)
  clear B1 G2
  go_wp2_with fail
  generalize w1.heap.size = F at *
  refine wp_loop_rounds 1 ?_
  rw [rounds_succ]
  go_wp2_with fail
  go_loopw [6] (fun i wr => ∃ c : Nat, c ≤ 3 ∧ i = .int .i64 c ∧ Below w.heap.size w wr ∧ HasAll wr F (fun _ => WR.zero)) (fun i _ => 3 - (intOf i).toNat)
  case atStart => exact ⟨0, by omega, rfl, B2, A2⟩
  case round =>
    clear B2 A2
    obtain ⟨c, hc3, rfl, B4, C4⟩ := hrel
    by_cases hc : c < 3
    · have q1 : HasQ wr F (c * 5) ⟨0, 0, 0, 0, false⟩ := C4 c hc
      go_wp2_with fail
      refine (zzword F c hc _ wr q1).mono ?_
      rintro e w5 ⟨rfl, n1, rfl⟩
      clear q1
      go_wp2_with fail
      go_roundw
      case rel => exact ⟨c + 1, by omega, by go_num, ⟨B4.os, B4.tape, B4.output, B4.size, B4.block⟩, C4.drewN _⟩
      case measure => simp [intOf]; omega
    · go_wp2_with fail
      go_ret
      exact ⟨rfl, B4⟩

theorem min_lt {l x m : Nat} (h : x < l) (e : m = min l x) : m = x := by omega
theorem min_ge {l x m : Nat} (h : l ≤ x) (e : m = min l x) : m = l := by omega
theorem max_lt {l x m : Nat} (h : l < x) (e : m = max l x) : m = x := by omega
theorem max_ge {l x m : Nat} (h : x ≤ l) (e : m = max l x) : m = l := by omega

set_option maxRecDepth 100000 in
set_option maxHeartbeats 1000000 in
theorem match_some (b off len cap : Nat) (z : Nat → Nat → Nat) (w : World) (hl : len ≤ 32768) (h0 : 0 < len) (hb : b < w.heap.size) (hz : ∀ i j, z i j < 18446744073709551616)
    (hc : ∀ i j, i < len → j < 3 → w.cell? ⟨b, off + i * 3 + j, none⟩ = some (.int .u64 (z i j))) :
    Calls Try.prog 5 #[.slice (some ⟨b, off, none⟩) len cap] w fun e w' => e = .returned (.bool true) ∧ Below w.heap.size w w' := by
  have HC := hide hc
  have HZ := hide hz
  clear hc hz
  have hlb : decide ((32768 : Int) < (len : Int)) = false := decide_eq_false (by omega)
  have hl0 : ((len : Int) == 0) = false := beq_eq_false_iff_ne.2 (by omega)
  go_enter Try.func5, Try.ntmps5
  go_wp2_with fail
  refine (bytes15 _ len cap _ (by omega)).mono ?_
  rintro e w1 ⟨rfl, rfl⟩
  rw [decide_eq_true (by omega)]
  go_wp2_with fail
  refine (clone_some b off len cap z _ hl hb HC.out).mono ?_
  rintro e w1 ⟨rfl, G1, N1, C1⟩
  have T1 : TRel w w1 w.heap.size len z := ⟨(Below.refl _ _).grown G1 (Nat.le_refl _) (fun k hk => by simp at hk), Nat.le_refl _, N1, C1⟩
  clear G1 N1 C1 HC
  go_wp2_with fail
  refine (zznewA _).mono ?_
  rintro e w2 ⟨rfl, A2, G2⟩
  have T2 : TRel w w2 w.heap.size len z := T1.grown G2 (fun k hk => by simp at hk)
  have HF : w.heap.size < w1.heap.size := T1.size
  clear T1 G2
  go_wp2_with fail
  generalize w1.heap.size = F at *
  go_loopw [5] (fun i wr => ∃ k : Nat, k ≤ len ∧ i = .int .i64 k ∧ TRel w wr w.heap.size len z ∧ HasAll wr F (fun c => WR.run (fun j => z j c) k)) (fun i _ => len - (intOf i).toNat)
  case atStart => exact ⟨0, Nat.zero_le _, rfl, T2, A2⟩
  case round =>
    clear T2 A2
    obtain ⟨k, hk, rfl, T3, A3⟩ := hrel
    by_cases hlt : k < len
    · have r0 : wr.cell? ⟨w.heap.size, k * 3, none⟩ = some (.int .u64 (z k 0)) := T3.cells k 0 hlt (by omega)
      have r1 : wr.cell? ⟨w.heap.size, k * 3 + 1, none⟩ = some (.int .u64 (z k 1)) := T3.cells k 1 hlt (by omega)
      have r2 : wr.cell? ⟨w.heap.size, k * 3 + 2, none⟩ = some (.int .u64 (z k 2)) := T3.cells k 2 hlt (by omega)
      go_wp2_with fail
      refine (zzaddA F _ (fun c => z k c) wr A3 (fun c => WR.run_ok (fun j => HZ.out j c) k) (fun c => HZ.out k c)).mono ?_
      rintro e w3 ⟨rfl, A4, G4⟩
      clear r0 r1 r2
      go_wp2_with fail
      go_roundw
      case rel => exact ⟨k + 1, by omega, by go_num, T3.grown G4 (fun i hi => by simp at hi; omega), A4⟩
      case measure => simp [intOf]; omega
    · obtain rfl : len = k := by omega
      clear hlt hk
      go_wp2_with fail
      go_loopw [6] (fun i wr => ∃ c : Nat, c ≤ 3 ∧ i = .int .i64 c ∧ TRel w wr w.heap.size len z ∧ HasAll wr F (fun c => WR.run (fun j => z j c) len)) (fun i _ => 3 - (intOf i).toNat)
      case atStart => exact ⟨0, by omega, rfl, T3, A3⟩
      case round =>
        clear T3 A3
        obtain ⟨c, hc3, rfl, T6, B6⟩ := hrel
        by_cases hc : c < 3
        · obtain ⟨L, M, S, e1, p1, p2⟩ := match_plain (fun j => z j c) len h0
          have q1 : HasQ wr F (c * 5) ⟨z 0 c, L, M, S, true⟩ := by rw [← e1]; exact B6 c hc
          have EL : Hid ((WR.run (fun j => z j c) len).least = L) := by rw [e1]; rfl
          have EM : Hid ((WR.run (fun j => z j c) len).most = M) := by rw [e1]; rfl
          have P1 := hide p1
          have P2 := hide p2
          have k1 : L < 18446744073709551616 := by have := WR.run_ok (fun j => HZ.out j c) len; rw [e1] at this; exact this.l
          clear e1 p1 p2
          have r0 : wr.cell? ⟨w.heap.size, c, none⟩ = some (.int .u64 (z 0 c)) := by have := T6.cells 0 c h0 hc; rwa [Nat.zero_mul, Nat.zero_add] at this
          go_wp2_with fail
          refine (zzword F c hc _ wr q1).mono ?_
          rintro e w5 ⟨rfl, n1, rfl⟩
          clear q1
          go_wp2_with fail
          go_loop [12, 13, 14] (fun a b j => ∃ k : Nat, 1 ≤ k ∧ k ≤ len ∧ j = .int .i64 k ∧ a = .int .u64 (WR.run (fun j => z j c) k).least ∧ b = .int .u64 (WR.run (fun j => z j c) k).most) (fun _ _ j => len - (intOf j).toNat)
          case atStart => exact ⟨1, by omega, by omega, rfl, rfl, rfl⟩
          case round =>
            obtain ⟨k, hk1, hk, rfl, rfl, rfl⟩ := hrel
            by_cases hlt : k < len
            · have rk : wr.cell? ⟨w.heap.size, k * 3 + c, none⟩ = some (.int .u64 (z k c)) := T6.cells k c hlt hc
              have t1 := run_least (fun j => z j c) k (by omega)
              have t2 := run_most (fun j => z j c) k (by omega)
              have y4 := HZ.out k c
              generalize z k c = x at *
              have U1 := hide t1
              have U2 := hide t2
              clear t1 t2 P1 P2 EL EM r0
              obtain ⟨lo, hlo⟩ : ∃ lo, (WR.run (fun j => z j c) k).least = lo := ⟨_, rfl⟩
              obtain ⟨hi, hhi⟩ : ∃ hi, (WR.run (fun j => z j c) k).most = hi := ⟨_, rfl⟩
              rw [hlo] at U1 ⊢
              rw [hhi] at U2 ⊢
              clear hlo hhi
              rcases Nat.lt_or_ge x lo with d1 | d1
              · rcases Nat.lt_or_ge hi x with d2 | d2
                · go_wp2
                  go_round
                  case rel => exact ⟨k + 1, by omega, by omega, by go_num, by rw [min_lt d1 U1.out], by rw [max_lt d2 U2.out]⟩
                  case measure => simp [intOf]; omega
                · go_wp2
                  go_round
                  case rel => exact ⟨k + 1, by omega, by omega, by go_num, by rw [min_lt d1 U1.out], by rw [max_ge d2 U2.out]⟩
                  case measure => simp [intOf]; omega
              · rcases Nat.lt_or_ge hi x with d2 | d2
                · go_wp2
                  go_round
                  case rel => exact ⟨k + 1, by omega, by omega, by go_num, by rw [min_ge d1 U1.out], by rw [max_lt d2 U2.out]⟩
                  case measure => simp [intOf]; omega
                · go_wp2
                  go_round
                  case rel => exact ⟨k + 1, by omega, by omega, by go_num, by rw [min_ge d1 U1.out], by rw [max_ge d2 U2.out]⟩
                  case measure => simp [intOf]; omega
            · obtain rfl : len = k := by omega
              rw [EL.out, EM.out]
              clear EL EM hlt hk hk1
              go_wp2_with fail
              go_loop [15, 16] (fun g j => ∃ k : Nat, k ≤ len ∧ j = .int .i64 k ∧ g = .int .u64 (gTo (fun j => z j c) L k)) (fun _ j => len - (intOf j).toNat)
              case atStart => exact ⟨0, by omega, rfl, rfl⟩
              case round =>
                obtain ⟨k, hk, rfl, rfl⟩ := hrel
                by_cases hlt : k < len
                · have rk : wr.cell? ⟨w.heap.size, k * 3 + c, none⟩ = some (.int .u64 (z k c)) := T6.cells k c hlt hc
                  have y1 := P1.out k hlt
                  have y4 := HZ.out k c
                  have y5 := gTo_lt (fun j => z j c) L (fun j => HZ.out j c) k
                  have E : Hid (gTo (fun j => z j c) L (k + 1) = Nat.gcd (gTo (fun j => z j c) L k) (z k c - L)) := rfl
                  generalize z k c = x at *
                  clear P1 P2 r0
                  go_wp2_with fail
                  rw [show ((x : Int) - (L : Int)) = ((x - L : Nat) : Int) from by omega]
                  refine (bingcd (gTo (fun j => z j c) L k) (x - L) _ y5 (by omega)).mono ?_
                  rintro e w7 ⟨rfl, rfl⟩
                  go_wp2_with fail
                  go_round
                  case rel => exact ⟨k + 1, by omega, by go_num, by rw [E.out]⟩
                  case measure => simp [intOf]; omega
                · obtain rfl : len = k := by omega
                  rw [← P2.out]
                  go_wp2_with fail
                  go_roundw
                  case rel => exact ⟨c + 1, by omega, by go_num, T6.drewN _, B6.drewN _⟩
                  case measure => simp [intOf]; omega
        · go_wp2_with fail
          go_ret
          exact ⟨rfl, T6.below⟩
end Go.Proofs.Qxb6605703a
