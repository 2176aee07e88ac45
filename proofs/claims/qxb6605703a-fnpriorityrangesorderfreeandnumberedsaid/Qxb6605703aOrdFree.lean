/- FnPriorityRangesOrderFreeAndNumbered, walked. -/
import Derived.Test.Qxb6605703aRows
import Derived.Test.Qxb6605703aPrRead
import Derived.Test.Qxb6605703aClone
import Derived.WalkKit
import Derived.WalkSpells
import Derived.WalkLawsBesides
namespace Go.Proofs.Qxb6605703a
open Go.RowKit

set_option maxRecDepth 100000 in
set_option maxHeartbeats 400000 in
theorem ord_long (a : Option Addr) (len cap : Nat) (w : World) (hl : len ≤ 9223372036854775807) (h : 32768 < len) :
    Calls Try.prog 6 #[.slice a len cap] w fun e w' => e = .returned (.bool true) ∧ w' = w := by
  by_cases h2 : len ≤ 1048576
  · go_enter Try.func6, Try.ntmps6
    go_wp2_with fail
    refine (bytes21 a len cap _ hl).mono ?_
    rintro e w1 ⟨rfl, rfl⟩
    rw [decide_eq_true h2]
    go_wp2_with fail
    go_ret
    exact ⟨rfl, rfl⟩
  · go_enter Try.func6, Try.ntmps6
    go_wp2_with fail
    refine (bytes21 a len cap _ hl).mono ?_
    rintro e w1 ⟨rfl, rfl⟩
    rw [decide_eq_false h2]
    go_wp2_with fail
    go_ret
    exact ⟨rfl, rfl⟩

theorem run_back (z : Nat → Nat → Nat) (len m c : Nat) (h : m + 1 ≤ len) : WR.run (fun j => z (len - 1 - j) c) (len - m) = (WR.run (fun j => z (len - 1 - j) c) (len - (m + 1))).add (z m c) := by
  rw [show len - m = (len - (m + 1)) + 1 from by omega, WR.run]
  rw [show len - 1 - (len - (m + 1)) = m from by omega]

set_option maxRecDepth 100000 in
set_option maxHeartbeats 1000000 in
theorem ord_some (b off len cap : Nat) (z : Nat → Nat → Nat) (w : World) (hl : len ≤ 32768) (h0 : 0 < len) (hb : b < w.heap.size) (hz : ∀ i j, z i j < 18446744073709551616)
    (hc : ∀ i j, i < len → j < 3 → w.cell? ⟨b, off + i * 3 + j, none⟩ = some (.int .u64 (z i j))) :
    Calls Try.prog 6 #[.slice (some ⟨b, off, none⟩) len cap] w fun e w' => e = .returned (.bool true) ∧ Below w.heap.size w w' := by
  have HC := hide hc
  have HZ := hide hz
  clear hc hz
  have hlb : decide ((32768 : Int) < (len : Int)) = false := decide_eq_false (by omega)
  have hl0 : ((len : Int) == 0) = false := beq_eq_false_iff_ne.2 (by omega)
  go_enter Try.func6, Try.ntmps6
  go_wp2_with fail
  refine (bytes21 _ len cap _ (by omega)).mono ?_
  rintro e w1 ⟨rfl, rfl⟩
  rw [decide_eq_true (by omega)]
  go_wp2_with fail
  refine (clone_some b off len cap z _ hl hb HC.out).mono ?_
  rintro e w1 ⟨rfl, G1, N1, C1⟩
  have T1 : TRel w w1 w.heap.size len z := ⟨(Below.refl _ _).grown G1 (Nat.le_refl _) (fun k hk => by simp at hk), Nat.le_refl _, N1, C1⟩
  clear G1 N1 C1 HC
  go_wp2_with fail
  refine (zznewA _).mono ?_
  rintro e w2 ⟨rfl, A2, G2⟩
  have T2 : TRel w w2 w.heap.size len z := T1.grown G2 (fun k hk => by simp at hk)
  have HF : w.heap.size < w1.heap.size := T1.size
  clear T1 G2
  go_wp2_with fail
  generalize w1.heap.size = F at *
  go_loopw [5] (fun i wr => ∃ k : Nat, k ≤ len ∧ i = .int .i64 k ∧ TRel w wr w.heap.size len z ∧ HasAll wr F (fun c => WR.run (fun j => z j c) k)) (fun i _ => len - (intOf i).toNat)
  case atStart => exact ⟨0, Nat.zero_le _, rfl, T2, A2⟩
  case round =>
    clear T2 A2
    obtain ⟨k, hk, rfl, T3, A3⟩ := hrel
    by_cases hlt : k < len
    · have r0 : wr.cell? ⟨w.heap.size, k * 3, none⟩ = some (.int .u64 (z k 0)) := T3.cells k 0 hlt (by omega)
      have r1 : wr.cell? ⟨w.heap.size, k * 3 + 1, none⟩ = some (.int .u64 (z k 1)) := T3.cells k 1 hlt (by omega)
      have r2 : wr.cell? ⟨w.heap.size, k * 3 + 2, none⟩ = some (.int .u64 (z k 2)) := T3.cells k 2 hlt (by omega)
      go_wp2_with fail
      refine (zzaddA F _ (fun c => z k c) wr A3 (fun c => WR.run_ok (fun j => HZ.out j c) k) (fun c => HZ.out k c)).mono ?_
      rintro e w3 ⟨rfl, A4, G4⟩
      clear r0 r1 r2
      go_wp2_with fail
      go_roundw
      case rel => exact ⟨k + 1, by omega, by go_num, T3.grown G4 (fun i hi => by simp at hi; omega), A4⟩
      case measure => simp [intOf]; omega
    · obtain rfl : len = k := by omega
      clear hlt hk
      go_wp2_with fail
      refine (zznewA _).mono ?_
      rintro e w3 ⟨rfl, A4, G4⟩
      have HR : F < wr.heap.size := A3.lt
      have T4 : TRel w w3 w.heap.size len z := T3.grown G4 (fun k hk => by simp at hk)
      have B4 : HasAll w3 F (fun c => WR.run (fun j => z j c) len) := A3.grown G4 (by simp)
      clear T3 A3 G4
      go_wp2_with fail
      generalize wr.heap.size = R at *
      go_loopw [7] (fun i wr => ∃ k : Nat, k ≤ len ∧ i = .int .i64 ((k : Int) - 1) ∧ TRel w wr w.heap.size len z ∧ HasAll wr F (fun c => WR.run (fun j => z j c) len) ∧ HasAll wr R (fun c => WR.run (fun j => z (len - 1 - j) c) (len - k))) (fun i _ => (intOf i + 1).toNat)
      case atStart => exact ⟨len, Nat.le_refl _, rfl, T4, B4, by rw [Nat.sub_self]; exact A4⟩
      case round =>
        clear T4 A4 B4
        obtain ⟨k, hk, rfl, T5, B5, A5⟩ := hrel
        by_cases hk0 : 0 < k
        · obtain ⟨m, rfl⟩ : ∃ m, k = m + 1 := ⟨k - 1, by omega⟩
          rw [show (((m + 1 : Nat) : Int) - 1) = (m : Int) from by omega]
          have r0 : wr.cell? ⟨w.heap.size, m * 3, none⟩ = some (.int .u64 (z m 0)) := T5.cells m 0 (by omega) (by omega)
          have r1 : wr.cell? ⟨w.heap.size, m * 3 + 1, none⟩ = some (.int .u64 (z m 1)) := T5.cells m 1 (by omega) (by omega)
          have r2 : wr.cell? ⟨w.heap.size, m * 3 + 2, none⟩ = some (.int .u64 (z m 2)) := T5.cells m 2 (by omega) (by omega)
          go_wp2_with fail
          refine (zzaddA R _ (fun c => z m c) wr A5 (fun c => WR.run_ok (fun j => HZ.out _ c) _) (fun c => HZ.out m c)).mono ?_
          rintro e w4 ⟨rfl, A6, G6⟩
          clear r0 r1 r2
          have A7 : HasAll w4 R (fun c => WR.run (fun j => z (len - 1 - j) c) (len - m)) := fun i hi => by show HasQ w4 R (i * 5) (WR.run (fun j => z (len - 1 - j) i) (len - m)); rw [run_back z len m i (by omega)]; exact A6 i hi
          clear A6
          go_wp2_with fail
          go_roundw
          case rel => exact ⟨m, by omega, by go_num, T5.grown G6 (fun i hi => by simp at hi; omega), B5.grown G6 (by simp; omega), A7⟩
          case measure => simp [intOf]
        · obtain rfl : k = 0 := by omega
          rw [Nat.sub_zero] at A5
          go_wp2_with fail
          go_loopw [8] (fun i wr => ∃ c : Nat, c ≤ 3 ∧ i = .int .i64 c ∧ TRel w wr w.heap.size len z ∧ HasAll wr F (fun c => WR.run (fun j => z j c) len) ∧ HasAll wr R (fun c => WR.run (fun j => z (len - 1 - j) c) len)) (fun i _ => 3 - (intOf i).toNat)
          case atStart => exact ⟨0, by omega, rfl, T5, B5, A5⟩
          case round =>
            clear T5 B5 A5
            obtain ⟨c, hc3, rfl, T6, B6, A6⟩ := hrel
            by_cases hc : c < 3
            · obtain ⟨L, M, S, e1, e2, p1, p2, p3, p4, p5⟩ := ord_plain (fun j => z j c) len h0
              have q1 : HasQ wr F (c * 5) ⟨z 0 c, L, M, S, true⟩ := by rw [← e1]; exact B6 c hc
              have q2 : HasQ wr R (c * 5) ⟨z (len - 1) c, L, M, S, true⟩ := by rw [← e2]; exact A6 c hc
              have P1 := hide p1
              have P2 := hide p2
              have P3 := hide p3
              have P4 := hide p4
              have P5 := hide p5
              have k1 : L < 18446744073709551616 := by have := WR.run_ok (fun j => HZ.out j c) len; rw [e1] at this; exact this.l
              have k2 : M < 18446744073709551616 := by have := WR.run_ok (fun j => HZ.out j c) len; rw [e1] at this; exact this.m
              have k3 : S < 18446744073709551616 := by have := WR.run_ok (fun j => HZ.out j c) len; rw [e1] at this; exact this.s
              clear e1 e2 p1 p2 p3 p4 p5
              have r0 : wr.cell? ⟨w.heap.size, c, none⟩ = some (.int .u64 (z 0 c)) := by have := T6.cells 0 c h0 hc; rwa [Nat.zero_mul, Nat.zero_add] at this
              have rl : wr.cell? ⟨w.heap.size, (len - 1) * 3 + c, none⟩ = some (.int .u64 (z (len - 1) c)) := T6.cells (len - 1) c (by omega) hc
              generalize z 0 c = z0 at *
              generalize z (len - 1) c = zl at *
              go_wp2_with fail
              refine (zzword F c hc _ wr q1).mono ?_
              rintro e w5 ⟨rfl, n1, rfl⟩
              go_wp2_with fail
              refine (zzword R c hc _ _ (HasWR.drewN n1 q2)).mono ?_
              rintro e w6 ⟨rfl, n2, rfl⟩
              clear q1 q2
              go_wp2_with fail
              clear r0 rl
              go_loop [19, 20, 21] (fun a b j => ∃ k : Nat, k ≤ len ∧ j = .int .i64 k ∧ a = .bool (hit (fun j => z j c) L k) ∧ b = .bool (hit (fun j => z j c) M k)) (fun _ _ j => len - (intOf j).toNat)
              case atStart => exact ⟨0, Nat.zero_le _, rfl, rfl, rfl⟩
              case round =>
                obtain ⟨k, hk, rfl, rfl, rfl⟩ := hrel
                by_cases hlt : k < len
                · have rk : wr.cell? ⟨w.heap.size, k * 3 + c, none⟩ = some (.int .u64 (z k c)) := T6.cells k c hlt hc
                  have y1 := P1.out k hlt
                  have y2 := P2.out k hlt
                  have y3 := P3.out k hlt
                  have y4 := HZ.out k c
                  obtain ⟨x, HX⟩ : ∃ x, Hid (z k c = x) := ⟨_, rfl⟩
                  have EL1 : x = L → Hid (hit (fun j => z j c) L (k + 1) = true) := fun e => hit_yes (f := fun j => z j c) (HX.out.trans e)
                  have EL2 : ¬ x = L → Hid (hit (fun j => z j c) L (k + 1) = hit (fun j => z j c) L k) := fun e => hit_no (f := fun j => z j c) (fun e' => e (HX.out.symm.trans e'))
                  have EM1 : x = M → Hid (hit (fun j => z j c) M (k + 1) = true) := fun e => hit_yes (f := fun j => z j c) (HX.out.trans e)
                  have EM2 : ¬ x = M → Hid (hit (fun j => z j c) M (k + 1) = hit (fun j => z j c) M k) := fun e => hit_no (f := fun j => z j c) (fun e' => e (HX.out.symm.trans e'))
                  simp only [HX.out] at rk y1 y2 y3 y4
                  clear P1 P2 P3 P4 P5 T6 B6 A6
                  have y5 : (((x : Int) - (L : Int)) % (S : Int) != 0) = false := by rw [Int.emod_eq_zero_of_dvd y3]; rfl
                  have y6 : S = 0 → x = L := fun e => by subst e; have := Int.zero_dvd.1 (by simpa using y3); omega
                  clear y3
                  have hb1 : decide ((x : Int) < (L : Int)) = false := decide_eq_false (by omega)
                  have hb2 : decide ((M : Int) < (x : Int)) = false := decide_eq_false (by omega)
                  by_cases hS : S = 0
                  · have xL := y6 hS
                    have EL := EL1 xL
                    have c1 : ((S : Int) == 0) = true := beq_iff_eq.2 (by omega)
                    have c2 : ((x : Int) != (L : Int)) = false := by rw [xL]; simp
                    have c3 : ((x : Int) == (L : Int)) = true := beq_iff_eq.2 (by omega)
                    clear y6 EL1 EL2 xL hS y5
                    by_cases xM : x = M
                    · have EM := EM1 xM
                      have c4 : ((x : Int) == (M : Int)) = true := beq_iff_eq.2 (by omega)
                      clear EM1 EM2 xM
                      go_wp2
                      go_round
                      case rel => exact ⟨k + 1, by omega, by go_num, by rw [EL.out], by rw [EM.out]⟩
                      case measure => simp [intOf]; omega
                    · have EM := EM2 xM
                      have c4 : ((x : Int) == (M : Int)) = false := beq_eq_false_iff_ne.2 (by omega)
                      clear EM1 EM2 xM
                      go_wp2
                      go_round
                      case rel => exact ⟨k + 1, by omega, by go_num, by rw [EL.out], by rw [EM.out]⟩
                      case measure => simp [intOf]; omega
                  · have c1 : ((S : Int) == 0) = false := beq_eq_false_iff_ne.2 (by omega)
                    clear y6
                    by_cases xL : x = L
                    · have EL := EL1 xL
                      have c3 : ((x : Int) == (L : Int)) = true := beq_iff_eq.2 (by omega)
                      clear EL1 EL2 xL
                      by_cases xM : x = M
                      · have EM := EM1 xM
                        have c4 : ((x : Int) == (M : Int)) = true := beq_iff_eq.2 (by omega)
                        clear EM1 EM2 xM
                        go_wp2
                        go_round
                        case rel => exact ⟨k + 1, by omega, by go_num, by rw [EL.out], by rw [EM.out]⟩
                        case measure => simp [intOf]; omega
                      · have EM := EM2 xM
                        have c4 : ((x : Int) == (M : Int)) = false := beq_eq_false_iff_ne.2 (by omega)
                        clear EM1 EM2 xM
                        go_wp2
                        go_round
                        case rel => exact ⟨k + 1, by omega, by go_num, by rw [EL.out], by rw [EM.out]⟩
                        case measure => simp [intOf]; omega
                    · have EL := EL2 xL
                      have c3 : ((x : Int) == (L : Int)) = false := beq_eq_false_iff_ne.2 (by omega)
                      clear EL1 EL2 xL
                      by_cases xM : x = M
                      · have EM := EM1 xM
                        have c4 : ((x : Int) == (M : Int)) = true := beq_iff_eq.2 (by omega)
                        clear EM1 EM2 xM
                        go_wp2
                        go_round
                        case rel => exact ⟨k + 1, by omega, by go_num, by rw [EL.out], by rw [EM.out]⟩
                        case measure => simp [intOf]; omega
                      · have EM := EM2 xM
                        have c4 : ((x : Int) == (M : Int)) = false := beq_eq_false_iff_ne.2 (by omega)
                        clear EM1 EM2 xM
                        go_wp2
                        go_round
                        case rel => exact ⟨k + 1, by omega, by go_num, by rw [EL.out], by rw [EM.out]⟩
                        case measure => simp [intOf]; omega
                · obtain rfl : len = k := by omega
                  have t1 := P4.out
                  have t2 := P5.out
                  go_wp2_with fail
                  go_roundw
                  case rel => ((repeat apply Exists.intro); exact ⟨⟨c + 1, by omega, by go_num, T6.drewN _, B6.drewN _, A6.drewN _⟩, rfl⟩)
                  case measure => simp [intOf]; omega
            · go_wp2_with fail
              go_ret
              exact ⟨rfl, T6.below⟩
end Go.Proofs.Qxb6605703a
